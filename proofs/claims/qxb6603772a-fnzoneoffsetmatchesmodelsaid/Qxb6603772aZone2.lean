/- The walk of zoneOffset: what it answers. -/
import Derived.Test.Qxb6603772aZone1
import Derived.Deep.DeepCutAuto
import Derived.Deep.CutBlock
import Derived.WalkSpells
import Derived.Deep.RegionWith
namespace Go.Proofs.Qxb6603772a.Zn
set_option linter.unusedVariables false
set_option linter.unusedSimpArgs false
open Go.ChangeShapes Go.WideShapes Go.ChangeAt Go.RowKit Go.PlainAid
open Go.Proofs.Qxb6603772a.Bs Go.Proofs.Qxb6603772a.Wk

/-- The letters of x, bit 5 set, are y's. -/
def LowOf (x y : ByteArray) (b : Bool) : Prop := b = true ↔ x.size = y.size ∧ ∀ j, j < x.size → bits .or .u8 (bt x j) 32 = bt y j

set_option maxHeartbeats 400000 in
theorem lowerIs_any (x y : ByteArray) (w : World) (hm : x.size ≤ maxLen) (hm2 : y.size ≤ maxLen) :
    Calls Try.prog 35 #[.string x, .string y] w fun e w' => RetB (LowOf x y) e ∧ ∃ n, w' = w.drewN n := by
  have hb := get_bt x
  have hb2 := get_bt y
  unfold maxLen at hm hm2
  by_cases hs : x.size = y.size
  · have hs' : ((x.size : Int) != (y.size : Int)) = false := by rw [hs]; simp
    have HS : Hid (x.size = y.size) := hs
    have hs1 : x.size ≤ y.size := by omega
    clear hs
    go_enter Try.func35, Try.ntmps35
    go_wp2_with fail
    go_loopw [13] (fun v wr => ∃ k n : Nat, v = .int .i64 k ∧ k ≤ x.size ∧ wr = w.drewN n ∧ ∀ j, j < k → bits .or .u8 (bt x j) 32 = bt y j) (fun v _ => x.size - (intOf v).toNat)
    case atStart => exact ⟨0, 0, rfl, by omega, rfl, by omega⟩
    case round =>
      obtain ⟨k, n, rfl, hk, rfl, hall⟩ := hrel
      have HA : Hid (∀ j, j < k → bits .or .u8 (bt x j) 32 = bt y j) := hall
      clear hall
      by_cases hlt : k < x.size
      · have i1 : (k : Int) < x.size := by omega
        have i2 : (k : Int) < y.size := by omega
        have q0 := bt_nonneg x k
        have q1 := bt_le x k
        by_cases heq : bits .or .u8 (bt x k) 32 = bt y k
        · have heq' : (bits .or .u8 (bt x k) 32 != bt y k) = false := by rw [heq]; simp
          have HN : Hid (∀ j, j < k + 1 → bits .or .u8 (bt x j) 32 = bt y j) := by
            intro j hj
            by_cases e : j < k
            · exact HA.out j e
            · obtain rfl : k = j := by omega
              exact heq
          clear heq
          go_wp2_with fail
          go_quiet (fail)
          go_wp2_with fail
          go_roundw
          case rel => exact ⟨k + 1, _, by go_num, by omega, rfl, HN.out⟩
          case measure => simp [intOf]; omega
        · have heq' : (bits .or .u8 (bt x k) 32 != bt y k) = true := by rw [bne_iff_ne]; exact heq
          have HF : Hid (LowOf x y false) := by
            constructor
            · intro h; cases h
            · intro h; exact (heq (h.2 k hlt)).elim
          clear heq
          go_wp2_with fail
          go_quiet (fail)
          go_wp2_with fail
          go_ret
          exact ⟨⟨false, rfl, HF.out⟩, _, World.drewN_drewN ..⟩
      · have HF : Hid (LowOf x y true) := by
          constructor
          · intro _; exact ⟨HS.out, fun j hj => HA.out j (by omega)⟩
          · intro _; rfl
        go_wp2_with fail
        go_ret
        exact ⟨⟨true, rfl, HF.out⟩, _, rfl⟩
  · have hs' : ((x.size : Int) != (y.size : Int)) = true := by rw [bne_iff_ne]; omega
    have HF : Hid (LowOf x y false) := by
      constructor
      · intro h; cases h
      · intro h; exact (hs h.1).elim
    clear hs
    go_enter Try.func35, Try.ntmps35
    go_wp2_with fail
    go_ret
    exact ⟨⟨false, rfl, HF.out⟩, 0, rfl⟩

/-- A colon and two digits at p. -/
def Fd (B : Nat → Int) (p : Nat) : Prop := B p = 58 ∧ digB (B (p + 1)) = true ∧ digB (B (p + 2)) = true
def sgn (B : Nat → Int) : Int := if B 0 = 45 then -1 else 1

theorem bt_mid (x : ByteArray) (a b i : Nat) (h : a + i < b) (hb : b ≤ x.size) : bt (x.extract a b) i = bt x (a + i) := by
  rw [← bl_getD, bl_extract, List.getD_eq_getElem?_getD, List.getElem?_take, if_pos (by omega), List.getElem?_drop, ← List.getD_eq_getElem?_getD, bl_getD]

theorem two_bd {a b : Int} (h0 : digB a = true) (h1 : digB b = true) : 0 ≤ two a b ∧ two a b ≤ 99 := by
  simp [digB] at h0 h1
  unfold two
  omega

/-- twoDigits, its two bytes named. -/
theorem twoDigits_at (x : ByteArray) (a b : Int) (w : World) (hs : 2 ≤ x.size) (ha : bt x 0 = a) (hb : bt x 1 = b) (h0 : digB a = true) (h1 : digB b = true) :
    Calls Try.prog 33 #[.string x] w fun e w' => e = .returned (.int .i64 (two a b)) ∧ ∃ n, w' = w.drewN n := by
  subst ha hb
  exact twoDigits_any x w hs h0 h1

/-- The offset behind i fields. -/
def offA (B : Nat → Int) : Nat → Int
  | 0 => two (B 1) (B 2) * 3600
  | 1 => two (B 1) (B 2) * 3600 + two (B 4) (B 5) * 60
  | _ => two (B 1) (B 2) * 3600 + two (B 4) (B 5) * 60 + two (B 7) (B 8)

/-- What zoneOffset answers for a text that begins with a sign and d digits. -/
def ZSign (B : Nat → Int) (n d : Nat) (off : Int) (ok : Bool) : Prop :=
  (d = 2 ∧ ¬ Fd B 3 ∧ off = two (B 1) (B 2) * 3600 * sgn B ∧ (ok = true ↔ Wh B n 3)) ∨
  (d = 2 ∧ Fd B 3 ∧ ¬ Fd B 6 ∧ off = (two (B 1) (B 2) * 3600 + two (B 4) (B 5) * 60) * sgn B ∧ (ok = true ↔ Wh B n 6)) ∨
  (d = 2 ∧ Fd B 3 ∧ Fd B 6 ∧ off = (two (B 1) (B 2) * 3600 + two (B 4) (B 5) * 60 + two (B 7) (B 8)) * sgn B ∧ (ok = true ↔ Wh B n 9)) ∨
  (d = 4 ∧ off = (two (B 1) (B 2) * 3600 + two (B 3) (B 4) * 60) * sgn B ∧ (ok = true ↔ Wh B n 5)) ∨
  (d ≠ 2 ∧ d ≠ 4 ∧ off = 0 ∧ ok = false)

def ZS (B : Nat → Int) (n : Nat) (off : Int) (ok : Bool) : Prop :=
  (n = 0 ∧ off = 0 ∧ ok = true) ∨
  (0 < n ∧ B 0 = 90 ∧ off = 0 ∧ (ok = true ↔ Wh B n 1)) ∨
  (0 < n ∧ (B 0 = 43 ∨ B 0 = 45) ∧ ∃ d, IsRun B 1 d ∧ 1 + d ≤ n ∧ ZSign B n d off ok) ∨
  (0 < n ∧ B 0 = 32 ∧ off = 0 ∧ ∃ e, 1 ≤ e ∧ e ≤ n ∧ (∀ j, 1 ≤ j → j < e → spB (B j) = false) ∧ (e = n ∨ spB (B e) = true) ∧
    (ok = true ↔ (e = 1 ∨ (e = 4 ∧ bits .or .u8 (B 1) 32 = 117 ∧ bits .or .u8 (B 2) 32 = 116 ∧ bits .or .u8 (B 3) 32 = 99)) ∧ Wh B n e)) ∨
  (0 < n ∧ B 0 ≠ 90 ∧ B 0 ≠ 43 ∧ B 0 ≠ 45 ∧ B 0 ≠ 32 ∧ off = 0 ∧ ok = false)

theorem Wh_ext (x : ByteArray) (p : Nat) (hp : p ≤ x.size) : Wh (bt (x.extract p x.size)) (x.extract p x.size).size 0 ↔ Wh (bt x) x.size p := by
  have hs : (x.extract p x.size).size = x.size - p := by simp
  rw [hs]
  constructor
  · intro h j h1 h2
    have := h (j - p) (by omega) (by omega)
    rw [bt_ext, show p + (j - p) = j from by omega] at this
    exact this
  · intro h j _ h2
    rw [bt_ext]
    exact h (p + j) (by omega) (by omega)

set_option maxHeartbeats 400000 in
theorem zone_none (s : ByteArray) (w : World) (hm : s.size ≤ maxLen) (h : s.size = 0) :
    Calls Try.prog 24 #[.string s] w fun e w' => RetIB (ZS (bt s) s.size) e ∧ ∃ n, w' = w.drewN n := by
  have hem : s.toList.isEmpty = true := by rw [isEmpty_dec]; simpa using h
  have HF : Hid (ZS (bt s) s.size 0 true) := .inl ⟨h, rfl, rfl⟩
  clear h
  go_enter Try.func24, Try.ntmps24
  go_wp2_with fail
  go_ret2
  exact ⟨⟨0, true, rfl, HF.out⟩, 0, rfl⟩

set_option maxHeartbeats 400000 in
theorem zone_other (s : ByteArray) (w : World) (hm : s.size ≤ maxLen) (h : 0 < s.size) (c1 : bt s 0 ≠ 90) (c2 : bt s 0 ≠ 43) (c3 : bt s 0 ≠ 45) (c4 : bt s 0 ≠ 32) :
    Calls Try.prog 24 #[.string s] w fun e w' => RetIB (ZS (bt s) s.size) e ∧ ∃ n, w' = w.drewN n := by
  have hb := get_bt s
  have hem : s.toList.isEmpty = false := by rw [isEmpty_dec]; simp; intro e; rw [e] at h; simp at h
  have HF : Hid (ZS (bt s) s.size 0 false) := .inr (.inr (.inr (.inr ⟨h, c1, c2, c3, c4, rfl, rfl⟩)))
  have d1 : (bt s 0 == 90) = false := by simpa using c1
  have d2 : (bt s 0 == 43) = false := by simpa using c2
  have d3 : (bt s 0 == 45) = false := by simpa using c3
  have d4 : (bt s 0 == 32) = false := by simpa using c4
  clear c1 c2 c3 c4
  go_enter Try.func24, Try.ntmps24
  go_wp2_with fail
  go_ret2
  exact ⟨⟨0, false, rfl, HF.out⟩, 0, rfl⟩

set_option maxHeartbeats 400000 in
theorem zone_Z (s : ByteArray) (w : World) (hm : s.size ≤ maxLen) (h : 0 < s.size) (c1 : bt s 0 = 90) :
    Calls Try.prog 24 #[.string s] w fun e w' => RetIB (ZS (bt s) s.size) e ∧ ∃ n, w' = w.drewN n := by
  have hb := get_bt s
  have hem : s.toList.isEmpty = false := by rw [isEmpty_dec]; simp; intro e; rw [e] at h; simp at h
  have HC : Hid (bt s 0 = 90) := c1
  have hx : (s.extract 1 s.size).size ≤ maxLen := by simp; omega
  go_enter Try.func24, Try.ntmps24
  go_wp2_with (go_at_call 36; refine (trimLeft_any _ _ hx).mono ?_; rintro e w' ⟨⟨t, rfl, ht⟩, rfl⟩)
  go_ret2
  refine ⟨⟨0, t.toList.isEmpty, rfl, .inr (.inl ⟨h, HC.out, rfl, ?_⟩)⟩, 0, rfl⟩
  rw [isEmpty_dec, decide_eq_true_eq, ← Wh_ext s 1 (by omega)]
  exact ht

theorem trim_ok {s t u : ByteArray} {p : Nat} (hts : p + t.size = s.size) (hB : ∀ j, bt t j = bt s (p + j)) (hu : TrimOf t u) : u.toList.isEmpty = true ↔ Wh (bt s) s.size p := by
  rw [isEmpty_dec, decide_eq_true_eq]
  refine hu.trans ⟨fun h j h1 h2 => ?_, fun h j _ h2 => ?_⟩
  · have := h (j - p) (by omega) (by omega)
    rw [hB, show p + (j - p) = j from by omega] at this
    exact this
  · rw [hB]
    exact h (p + j) (by omega) (by omega)

end Go.Proofs.Qxb6603772a.Zn
