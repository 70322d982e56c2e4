/- The walk of scanClock at a clock that is written out. -/
import Derived.Test.Qxb6603772aClock1
import Derived.Test.Qxb6603772aGrow
import Derived.Test.Qxb6603772aZone2
namespace Go.Proofs.Qxb6603772a.Ck
set_option linter.unusedVariables false
set_option linter.unusedSimpArgs false
open Go.ChangeShapes Go.WideShapes Go.ChangeAt Go.RowKit Go.PlainAid
open Go.Proofs.Qxb6603772a.Bs Go.Proofs.Qxb6603772a.Wk Go.Proofs.Qxb6603772a.Zn

/-- t is what is left of X from p on. -/
def Suf (X t : ByteArray) (p : Nat) : Prop := p + t.size = X.size ∧ ∀ i, bt t i = bt X (p + i)

theorem Suf.ext {X t : ByteArray} {p : Nat} (h : Suf X t p) (q : Nat) (hq : q ≤ t.size) : Suf X (t.extract q t.size) (p + q) := by
  refine ⟨?_, fun i => ?_⟩
  · have := h.1; simp; omega
  · rw [bt_ext, h.2, Nat.add_assoc]

theorem bytes_ext {a b : ByteArray} (hs : a.size = b.size) (h : ∀ i, bt a i = bt b i) : a = b := by
  have hl : a.data.toList = b.data.toList := by
    apply List.ext_getElem
    · simpa using hs
    · intro i h1 h2
      have ha : i < a.size := by simpa using h1
      have hb : i < b.size := by simpa using h2
      have e := h i
      rw [← get_bt a i ha, ← get_bt b i hb] at e
      have e2 : a[i] = b[i] := UInt8.toNat_inj.1 (by omega)
      simp
      exact e2
  cases a; cases b
  congr 1
  exact Array.toList_inj.1 hl

theorem Suf.eq {X t t' : ByteArray} {p : Nat} (h : Suf X t p) (h' : Suf X t' p) : t = t' :=
  bytes_ext (by have := h.1; have := h'.1; omega) (fun i => by rw [h.2, h'.2])

theorem notEmpty {t : ByteArray} (h : 0 < t.size) : t.toList.isEmpty = false := by rw [isEmpty_dec]; simpa using (by omega : t.size ≠ 0)

theorem nv_two {B : Nat → Int} (h0 : digB (B 0) = true) (h1 : digB (B 1) = true) : nv B 2 = two (B 0) (B 1) := by
  simp [digB] at h0 h1
  have e1 : nv B 1 = B 0 - 48 := by
    show (if 1000000001 < nv B 0 * 10 + (B 0 - 48) then 1000000001 else nv B 0 * 10 + (B 0 - 48)) = _
    have e0 : nv B 0 = 0 := rfl
    rw [e0, if_neg (by omega)]
    omega
  show (if 1000000001 < nv B 1 * 10 + (B 1 - 48) then 1000000001 else nv B 1 * 10 + (B 1 - 48)) = _
  rw [e1, if_neg (by omega)]
  rfl

/-- scanNumeral on what is left of X from p on, two digits. -/
theorem num_two {X t : ByteArray} {p : Nat} (h : Suf X t p) (d0 : digB (bt X p) = true) (d1 : digB (bt X (p + 1)) = true) :
    nv (bt t) 2 = two (bt X p) (bt X (p + 1)) ∧ (∀ j, j < 2 → digB (bt t j) = true) := by
  have e0 : bt t 0 = bt X p := h.2 0
  have e1 : bt t 1 = bt X (p + 1) := h.2 1
  refine ⟨?_, ?_⟩
  · rw [nv_two (by rw [e0]; exact d0) (by rw [e1]; exact d1), e0, e1]
  · intro j hj
    rcases (show j = 0 ∨ j = 1 by omega) with rfl | rfl
    · rw [e0]; exact d0
    · rw [e1]; exact d1

def ClockOf (X : ByteArray) (k : Nat) (e : Ending) : Prop :=
  ∃ t, e = .returned (.tuple #[.agg #[.int .i64 (((two (bt X 0) (bt X 1) * 60 + two (bt X 3) (bt X 4)) * 60 + two (bt X 6) (bt X 7)) * 1000000 + six (bt X 9) (bt X 10) (bt X 11) (bt X 12) (bt X 13) (bt X 14)), .string t, .bool true],
      .bool (decide ((((two (bt X 0) (bt X 1) * 60 + two (bt X 3) (bt X 4)) * 60 + two (bt X 6) (bt X 7)) * 1000000 + six (bt X 9) (bt X 10) (bt X 11) (bt X 12) (bt X 13) (bt X 14)) ≤ 86400000000))]) ∧ Suf X t (9 + k)

set_option maxHeartbeats 1000000 in
theorem scanClock_any (X : ByteArray) (k : Nat) (w : World) (hm : X.size ≤ maxLen) (hn : 9 + k ≤ X.size) (hk : 6 ≤ k)
    (d0 : digB (bt X 0) = true) (d1 : digB (bt X 1) = true) (c2 : bt X 2 = 58) (d3 : digB (bt X 3) = true) (d4 : digB (bt X 4) = true) (c5 : bt X 5 = 58) (d6 : digB (bt X 6) = true) (d7 : digB (bt X 7) = true) (c8 : bt X 8 = 46)
    (hrun : IsRun (bt X) 9 k) (u1 : two (bt X 3) (bt X 4) ≤ 59) (u2 : two (bt X 6) (bt X 7) ≤ 59) :
    Calls Try.prog 28 #[.string X] w fun e w' => ClockOf X k e ∧ Grown w w' := by
  have hm2 := hm
  unfold maxLen at hm2
  have HD0 : Hid (digB (bt X 0) = true) := d0
  have HD1 : Hid (digB (bt X 1) = true) := d1
  have HD3 : Hid (digB (bt X 3) = true) := d3
  have HD4 : Hid (digB (bt X 4) = true) := d4
  have HD6 : Hid (digB (bt X 6) = true) := d6
  have HD7 : Hid (digB (bt X 7) = true) := d7
  have HC2 : Hid (bt X 2 = 58) := c2
  have HC5 : Hid (bt X 5 = 58) := c5
  have HC8 : Hid (bt X 8 = 46) := c8
  have HR : Hid (IsRun (bt X) 9 k) := hrun
  have t0 := (two_bd d0 d1).1
  have t1 := (two_bd d0 d1).2
  have t2 := (two_bd d3 d4).1
  have t3 := (two_bd d3 d4).2
  have t4 := (two_bd d6 d7).1
  have t5 := (two_bd d6 d7).2
  clear d0 d1 d3 d4 d6 d7 c2 c5 c8 hrun
  have S0 : Suf X X 0 := ⟨by omega, fun i => by rw [Nat.zero_add]⟩
  go_enter Try.func28, Try.ntmps28
  have N0 := num_two S0 HD0.out HD1.out
  have K0 : Hid (∀ wx, Calls Try.prog 37 #[.string X, .int .i64 9] wx fun e w' => e = .returned (.tuple #[.int .i64 (nv (bt X) 2), .string (X.extract 2 X.size), .bool true]) ∧ ∃ n, w' = wx.drewN n) :=
    fun wx => scanNumeral_any X 9 2 wx (by have := S0.1; omega) (by omega) (by have := S0.1; omega) N0.2 (.inr (by omega)) (.inr (by rw [HC2.out]; rfl))
  rw [N0.1] at K0
  clear N0
  go_wp2_with fail
  refine (K0.out _).mono ?_
  rintro e w0 ⟨rfl, n0, hw0⟩
  subst hw0
  have S1 : Suf X (X.extract 2 X.size) 2 := S0.ext 2 (by omega)
  generalize X.extract 2 X.size = x1 at *
  have z1 := S1.1
  -- the colon
  have P1 : Hid (∀ wx, Calls Try.prog 38 #[.string x1, .string ⟨#[58]⟩] wx fun e w' => e = .returned (.bool true) ∧ w' = wx) :=
    fun wx => sHasPrefix_yes x1 58 wx (by omega) (by omega) ((S1.2 0).trans HC2.out)
  go_wp2_with fail
  refine (P1.out _).mono ?_
  rintro e v1 ⟨rfl, hv1⟩
  rw [hv1]
  clear hv1
  have S2 : Suf X (x1.extract 1 x1.size) 3 := S1.ext 1 (by omega)
  have em2 : (x1.extract 1 x1.size).toList.isEmpty = false := notEmpty (by have := S2.1; omega)
  have hx2 : ((x1.size - 1 : Nat) : Int) = x1.size - 1 := by omega
  go_wp2_with fail
  generalize x1.extract 1 x1.size = x2 at *
  have z2 := S2.1
  have N3 := num_two S2 HD3.out HD4.out
  have K3 : Hid (∀ wx, Calls Try.prog 37 #[.string x2, .int .i64 2] wx fun e w' => e = .returned (.tuple #[.int .i64 (nv (bt x2) 2), .string (x2.extract 2 x2.size), .bool true]) ∧ ∃ n, w' = wx.drewN n) :=
    fun wx => scanNumeral_any x2 2 2 wx (by have := S2.1; omega) (by omega) (by have := S2.1; omega) N3.2 (.inr (by omega)) (.inl ⟨by omega, rfl⟩)
  rw [N3.1] at K3
  clear N3
  go_wp2_with fail
  refine (K3.out _).mono ?_
  rintro e w3 ⟨rfl, n3, hw3⟩
  subst hw3
  have S3 : Suf X (x2.extract 2 x2.size) 5 := S2.ext 2 (by omega)
  have em3 : (x2.extract 2 x2.size).toList.isEmpty = false := notEmpty (by have := S3.1; omega)
  generalize x2.extract 2 x2.size = x3 at *
  have z3 := S3.1
  have K4 : Hid (∀ wx, Calls Try.prog 39 #[.string x3, .string ⟨#[58]⟩] wx fun e w' => e = .returned (.tuple #[.string (x3.extract 1 x3.size), .bool true]) ∧ w' = wx) :=
    fun wx => sCutPrefix_yes x3 58 wx (by omega) (by omega) ((S3.2 0).trans HC5.out)
  go_wp2_with fail
  refine (K4.out _).mono ?_
  rintro e w4 ⟨rfl, hw4⟩
  rw [hw4]
  clear hw4
  have S4 : Suf X (x3.extract 1 x3.size) 6 := S3.ext 1 (by omega)
  have em4 : (x3.extract 1 x3.size).toList.isEmpty = false := notEmpty (by have := S4.1; omega)
  generalize x3.extract 1 x3.size = x4 at *
  have z4 := S4.1
  have N5 := num_two S4 HD6.out HD7.out
  have K5 : Hid (∀ wx, Calls Try.prog 37 #[.string x4, .int .i64 2] wx fun e w' => e = .returned (.tuple #[.int .i64 (nv (bt x4) 2), .string (x4.extract 2 x4.size), .bool true]) ∧ ∃ n, w' = wx.drewN n) :=
    fun wx => scanNumeral_any x4 2 2 wx (by have := S4.1; omega) (by omega) (by have := S4.1; omega) N5.2 (.inr (by omega)) (.inl ⟨by omega, rfl⟩)
  rw [N5.1] at K5
  clear N5
  go_wp2_with fail
  refine (K5.out _).mono ?_
  rintro e w5 ⟨rfl, n5, hw5⟩
  subst hw5
  have S5 : Suf X (x4.extract 2 x4.size) 8 := S4.ext 2 (by omega)
  have em5 : (x4.extract 2 x4.size).toList.isEmpty = false := notEmpty (by have := S5.1; omega)
  generalize x4.extract 2 x4.size = x5 at *
  have z5 := S5.1
  have K6 : Hid (∀ wx, Calls Try.prog 39 #[.string x5, .string ⟨#[46]⟩] wx fun e w' => e = .returned (.tuple #[.string (x5.extract 1 x5.size), .bool true]) ∧ w' = wx) :=
    fun wx => sCutPrefix_yes x5 46 wx (by omega) (by omega) ((S5.2 0).trans HC8.out)
  go_wp2_with fail
  refine (K6.out _).mono ?_
  rintro e w6 ⟨rfl, hw6⟩
  rw [hw6]
  clear hw6
  have S6 : Suf X (x5.extract 1 x5.size) 9 := S5.ext 1 (by omega)
  have em6 : (x5.extract 1 x5.size).toList.isEmpty = false := notEmpty (by have := S6.1; omega)
  generalize x5.extract 1 x5.size = x6 at *
  have z6 := S6.1
  have hd6 : ∀ j, j < k → digB (bt x6 j) = true := fun j hj => by rw [S6.2]; exact HR.out.1 j hj
  have K7 : Hid (∀ wx, Calls Try.prog 37 #[.string x6, .int .i64 0] wx fun e w' => e = .returned (.tuple #[.int .i64 (nv (bt x6) k), .string (x6.extract k x6.size), .bool (decide (0 < k))]) ∧ ∃ n, w' = wx.drewN n) :=
    fun wx => scanNumeral_any x6 0 k wx (by omega) (by omega) (by omega) hd6 (.inl rfl) (.inr (by rw [S6.2]; exact HR.out.2))
  have S7 : Suf X (x6.extract k x6.size) (9 + k) := S6.ext k (by omega)
  have HK8 : Hid (∀ wx, Calls Try.prog 40 #[.string (x6.extract 0 k)] wx fun e w' => e = .returned (.int .i64 (six (bt X 9) (bt X 10) (bt X 11) (bt X 12) (bt X 13) (bt X 14))) ∧ w' = wx) := by
    intro wx
    have f := fun j (hj : j < 6) => show bt (x6.extract 0 k) j = bt X (9 + j) by rw [bt_mid _ _ _ _ (by omega) (by omega), Nat.zero_add, S6.2]
    have h := fraction_any (x6.extract 0 k) wx (by simp; omega) (by simp; omega) (fun j hj => by rw [f j hj]; exact HR.out.1 j (by omega))
    rw [f 0 (by omega), f 1 (by omega), f 2 (by omega), f 3 (by omega), f 4 (by omega), f 5 (by omega)] at h
    exact h
  have hsx : 0 ≤ six (bt X 9) (bt X 10) (bt X 11) (bt X 12) (bt X 13) (bt X 14) ∧ six (bt X 9) (bt X 10) (bt X 11) (bt X 12) (bt X 13) (bt X 14) ≤ 999999 := by
    have g := fun j (hj : j < 6) => HR.out.1 j (by omega)
    have g0 := g 0 (by omega)
    have g1 := g 1 (by omega)
    have g2 := g 2 (by omega)
    have g3 := g 3 (by omega)
    have g4 := g 4 (by omega)
    have g5 := g 5 (by omega)
    simp [digB] at g0 g1 g2 g3 g4 g5
    unfold six
    omega
  clear hd6
  go_wp2_with fail
  refine (K7.out _).mono ?_
  rintro e w7 ⟨rfl, n7, hw7⟩
  subst hw7
  clear K7 K6 K5 K4 K3 K0 P1
  have z7 : (x6.extract k x6.size).size = x6.size - k := by simp
  generalize x6.extract k x6.size = x7 at *
  generalize nv (bt x6) k = nvk at *
  go_wp2_with fail
  rw [show x6.size - (x6.size - k) = k from by omega]
  refine (HK8.out _).mono ?_
  rintro e w8 ⟨rfl, hw8⟩
  rw [hw8]
  clear hw8 HK8
  have HCL : Hid (∀ (e : Ending) (t : ByteArray), Suf X t (9 + k) → e = .returned (.tuple #[.agg #[.int .i64 (((two (bt X 0) (bt X 1) * 60 + two (bt X 3) (bt X 4)) * 60 + two (bt X 6) (bt X 7)) * 1000000 + six (bt X 9) (bt X 10) (bt X 11) (bt X 12) (bt X 13) (bt X 14)), .string t, .bool true],
      .bool (decide ((((two (bt X 0) (bt X 1) * 60 + two (bt X 3) (bt X 4)) * 60 + two (bt X 6) (bt X 7)) * 1000000 + six (bt X 9) (bt X 10) (bt X 11) (bt X 12) (bt X 13) (bt X 14)) ≤ 86400000000))]) → ClockOf X k e) := fun e t ht he => ⟨t, he, ht⟩
  obtain ⟨s0, s1⟩ := hsx
  generalize two (bt X 0) (bt X 1) = T0 at *
  generalize two (bt X 3) (bt X 4) = T1 at *
  generalize two (bt X 6) (bt X 7) = T2 at *
  generalize six (bt X 9) (bt X 10) (bt X 11) (bt X 12) (bt X 13) (bt X 14) = F at *
  go_wp2_with fail
  refine bodyPost_ret (v := .tuple #[.agg #[.int .i64 (((T0 * 60 + T1) * 60 + T2) * 1000000 + F), .string x7, .bool true], .bool (decide (((T0 * 60 + T1) * 60 + T2) * 1000000 + F ≤ 86400000000))]) (by simp [results, Try.results28, go_sem]) rfl ⟨HCL.out _ x7 S7 rfl, ?_⟩
  exact (((Zn.Grown_drewN ((Grown.refl _).alloc _ _) _).setCell (Nat.le_refl _) _).setCell (Nat.le_refl _) _).setCell (Nat.le_refl _) _

end Go.Proofs.Qxb6603772a.Ck
