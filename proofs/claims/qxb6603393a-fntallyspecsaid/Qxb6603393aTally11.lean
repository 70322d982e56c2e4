/- The walks of tallyAbove, tallySameKey, tallyFirstHighest, tallyBefore. -/
import Derived.Test.Qxb6603393aTally7
import Derived.Test.Qxb6603393aTally10
namespace Go.Proofs.Qxb6603393a.Ty
set_option linter.unusedVariables false
set_option linter.unusedSimpArgs false
open Go.ChangeShapes Go.WideShapes Go.ChangeAt Go.RowKit

theorem two_below (w : World) (o1 o2 : Obj) : Below w.heap.size w ((w.alloc o1).alloc o2) := ((Below.refl _ _).alloc (Nat.le_refl _) _).alloc (by simp) _

set_option maxHeartbeats 400000 in
theorem above2_any (v1 a1 r1 v2 a2 r2 : Int) (l1 l2 : Bool) (w : World) :
    Calls Try.prog 33 #[.agg #[.int .i64 v1, .int .i64 a1, .int .i64 r1, .bool l1], .agg #[.int .i64 v2, .int .i64 a2, .int .i64 r2, .bool l2]] w fun e w' => e = .returned (.bool (outr a1 r1 l1 a2 r2 l2)) ∧ Below w.heap.size w w' := by
  by_cases h : a1 = a2
  · have h' : (a1 != a2) = false := by rw [h]; simp
    by_cases k : r1 = r2
    · have k' : (r1 != r2) = false := by rw [k]; simp
      have HA : Hid (outr a1 r1 l1 a2 r2 l2 = (l1 && !l2)) := by show _ = _; unfold outr abv; rw [if_pos h, if_pos k]
      clear h k
      cases l1
      all_goals
        go_enter Try.func33, Try.ntmps33
        go_wp2
        go_ret
        exact ⟨ret_bool (by rw [HA.out]; rfl), two_below _ _ _⟩
    · have k' : (r1 != r2) = true := by rw [bne_iff_ne]; exact k
      have HA : Hid (outr a1 r1 l1 a2 r2 l2 = decide (r2 < r1)) := by show _ = _; unfold outr abv; rw [if_pos h, if_neg k]
      clear h k
      go_enter Try.func33, Try.ntmps33
      go_wp2
      go_ret
      exact ⟨ret_bool (by rw [HA.out]), two_below _ _ _⟩
  · have h' : (a1 != a2) = true := by rw [bne_iff_ne]; exact h
    have HA : Hid (outr a1 r1 l1 a2 r2 l2 = decide (a2 < a1)) := by show _ = _; unfold outr; rw [if_neg h]
    clear h
    go_enter Try.func33, Try.ntmps33
    go_wp2
    go_ret
    exact ⟨ret_bool (by rw [HA.out]), two_below _ _ _⟩

set_option maxHeartbeats 400000 in
theorem same_any (v1 a1 r1 v2 a2 r2 : Int) (l1 l2 : Bool) (w : World) :
    Calls Try.prog 34 #[.agg #[.int .i64 v1, .int .i64 a1, .int .i64 r1, .bool l1], .agg #[.int .i64 v2, .int .i64 a2, .int .i64 r2, .bool l2]] w fun e w' => e = .returned (.bool (sameK a1 r1 l1 a2 r2 l2)) ∧ Below w.heap.size w w' := by
  by_cases h : a1 = a2
  · have h' : (a1 == a2) = true := by rw [h]; simp
    by_cases k : r1 = r2
    · have k' : (r1 == r2) = true := by rw [k]; simp
      have HA : Hid (sameK a1 r1 l1 a2 r2 l2 = (l1 == l2)) := by show _ = _; unfold sameK; cases l1 <;> cases l2 <;> simp [h, k]
      clear h k
      cases l1 <;> cases l2
      all_goals
        go_enter Try.func34, Try.ntmps34
        go_wp2
        go_ret
        exact ⟨ret_bool (by rw [HA.out]; rfl), two_below _ _ _⟩
    · have k' : (r1 == r2) = false := by simp [k]
      have HA : Hid (sameK a1 r1 l1 a2 r2 l2 = false) := by show _ = _; unfold sameK; simp [k]
      clear h k
      go_enter Try.func34, Try.ntmps34
      go_wp2
      go_ret
      exact ⟨ret_bool (by rw [HA.out]), two_below _ _ _⟩
  · have h' : (a1 == a2) = false := by simp [h]
    have HA : Hid (sameK a1 r1 l1 a2 r2 l2 = false) := by show _ = _; unfold sameK; simp [h]
    clear h
    go_enter Try.func34, Try.ntmps34
    go_wp2
    go_ret
    exact ⟨ret_bool (by rw [HA.out]), two_below _ _ _⟩

set_option maxHeartbeats 400000 in
theorem before_any (id n t ch cs dv dr : Int) (dd : Bool) (ti : Int) (lt : Bool) (w : World) :
    Calls Try.prog 23 #[.agg #[.int .i64 id, .int .i64 n, .int .i64 t, .int .i64 ch, .int .i64 cs, .bool dd, .int .i64 dv, .int .i64 dr, .int .i64 ti, .bool lt]] w fun e w' => e = .returned (.agg #[.int .i64 ch, .int .i64 cs, .bool dd, .int .i64 dv, .int .i64 dr, .int .i64 ti]) ∧ Below w.heap.size w w' := by
  go_enter Try.func23, Try.ntmps23
  go_wp2
  exact bodyPost_ret (v := .agg #[.int .i64 ch, .int .i64 cs, .bool dd, .int .i64 dv, .int .i64 dr, .int .i64 ti]) (by simp [results, Try.results23, go_sem]) rfl ⟨rfl, two_below _ _ _⟩

set_option maxHeartbeats 1000000 in
theorem firstHighest_any (ad : Addr) (m cap : Nat) (V A R : Nat → Int) (L : Nat → Bool) (w : World) (hs : Src ad m V A R L w) (hab : ad.block < w.heap.size) (hml : m ≤ 32768) (hm : 1 ≤ m) :
    Calls Try.prog 24 #[.slice (some ad) m cap] w fun e w' => e = .returned (.int .i64 (bestI A R L m : Nat)) ∧ Below w.heap.size w w' := by
  have HS : Hid (Src ad m V A R L w) := hs
  clear hs
  go_enter Try.func24, Try.ntmps24
  go_wp2_with fail
  go_loopw [3, 4] (fun u v wr => ∃ k : Nat, u = .int .i64 (lastI A R L k : Nat) ∧ v = .int .i64 k ∧ 1 ≤ k ∧ k ≤ m ∧ Below w.heap.size w wr) (fun _ v _ => m - (intOf v).toNat)
  case atStart => exact ⟨1, rfl, rfl, by omega, by omega, Below.refl _ _⟩
  case round =>
    obtain ⟨k, rfl, rfl, hk1, hk, hbw⟩ := hrel
    have s0 := hbw.size
    have b1 := last_lt (A := A) (R := R) (L := L) k hk1
    by_cases hlt : k < m
    · have i1 : (k : Int) < m := by omega
      have hj : lastI A R L k < m := by omega
      have i2 : ((lastI A R L k : Nat) : Int) < m := by omega
      have HS2 : Hid (Src ad m V A R L wr) := HS.out.below hbw hab
      obtain ⟨f0, f1, f2, f3⟩ := HS2.out k hlt
      obtain ⟨e0, e1, e2, e3⟩ := HS2.out _ hj
      have HO : Hid (lastI A R L (k + 1) = if outr (A (lastI A R L k)) (R (lastI A R L k)) (L (lastI A R L k)) (A k) (R k) (L k) = true then lastI A R L k else k) := by
        show _ = _
        obtain ⟨k', rfl⟩ : ∃ k', k = k' + 1 := ⟨k - 1, by omega⟩
        rw [lastI]
      have HC : Hid (Calls Try.prog 33 #[.agg #[.int .i64 (V (lastI A R L k)), .int .i64 (A (lastI A R L k)), .int .i64 (R (lastI A R L k)), .bool (L (lastI A R L k))], .agg #[.int .i64 (V k), .int .i64 (A k), .int .i64 (R k), .bool (L k)]] wr.drew fun e w' => e = .returned (.bool (outr (A (lastI A R L k)) (R (lastI A R L k)) (L (lastI A R L k)) (A k) (R k) (L k))) ∧ Below wr.drew.heap.size wr.drew w') :=
        above2_any _ _ _ _ _ _ _ _ wr.drew
      generalize outr (A (lastI A R L k)) (R (lastI A R L k)) (L (lastI A R L k)) (A k) (R k) (L k) = o at *
      generalize hJ : lastI A R L k = j at *
      have HJ : Hid (lastI A R L k = j) := hJ
      clear hJ
      go_upto_region 5 with fail
      go_cut [21] from 12 to 21 (fun v wc => v = .bool (!o) ∧ Below w.heap.size w wc)
      case first =>
        go_region_with (go_at_call 33; refine HC.out.mono ?_; rintro e w1 ⟨rfl, hb1⟩)
        all_goals
          go_wp2_with fail
          go_meet
        all_goals
          case rel => exact ⟨rfl, (hbw.drew).trans (hb1.mono s0)⟩
      case rest =>
        obtain ⟨rfl, hbc⟩ := hcut
        cases o
        all_goals
          go_wp2_with fail
          go_roundw
          case rel => exact ⟨k + 1, by rw [HO.out] <;> rfl, by go_num, by omega, by omega, hbc⟩
          case measure => simp [intOf]; omega
    · obtain rfl : k = m := by omega
      have HF : Hid (∀ i, i < bestI A R L k → sameK (A i) (R i) (L i) (A (lastI A R L k)) (R (lastI A R L k)) (L (lastI A R L k)) = false) := (first_same k hm).2.2.2
      have HG : Hid (sameK (A (bestI A R L k)) (R (bestI A R L k)) (L (bestI A R L k)) (A (lastI A R L k)) (R (lastI A R L k)) (L (lastI A R L k)) = true) := (first_same k hm).2.2.1
      have hbk := (first_same (A := A) (R := R) (L := L) k hm).1
      generalize hBI : bestI A R L k = b at *
      have HBI : Hid (bestI A R L k = b) := hBI
      clear hBI
      generalize lastI A R L k = j at *
      have i2 : (j : Int) < k := by omega
      go_wp2_with fail
      go_loopw [5] (fun v wx => ∃ i : Nat, v = .int .i64 i ∧ i ≤ b ∧ Below w.heap.size w wx) (fun v _ => k - (intOf v).toNat)
      case atStart => exact ⟨0, rfl, by omega, hbw⟩
      case round =>
        obtain ⟨i, rfl, hi, hbx⟩ := hrel
        have s1 := hbx.size
        have hik : i < k := by omega
        have i1 : (i : Int) < k := by omega
        have HS2 : Hid (Src ad k V A R L wr) := HS.out.below hbx hab
        obtain ⟨f0, f1, f2, f3⟩ := HS2.out i hik
        obtain ⟨e0, e1, e2, e3⟩ := HS2.out j b1
        have HC : Hid (Calls Try.prog 34 #[.agg #[.int .i64 (V i), .int .i64 (A i), .int .i64 (R i), .bool (L i)], .agg #[.int .i64 (V j), .int .i64 (A j), .int .i64 (R j), .bool (L j)]] wr.drew fun e w' => e = .returned (.bool (sameK (A i) (R i) (L i) (A j) (R j) (L j))) ∧ Below wr.drew.heap.size wr.drew w') :=
          same_any _ _ _ _ _ _ _ _ wr.drew
        by_cases hib : i = b
        · have HK : Hid (sameK (A i) (R i) (L i) (A j) (R j) (L j) = true) := by show _ = _; rw [hib]; exact HG.out
          have HI : Hid (i = b) := hib
          clear hib
          generalize sameK (A i) (R i) (L i) (A j) (R j) (L j) = o at *
          obtain rfl : o = true := HK.out
          clear hbw s0
          go_upto_region 10 with fail
          go_cut [37] from 29 to 37 (fun v wc => v = .bool true ∧ Below w.heap.size w wc)
          case first =>
            go_region_with (go_at_call 34; refine HC.out.mono ?_; rintro e w1 ⟨rfl, hb1⟩)
            all_goals
              go_wp2_with fail
              go_meet
            all_goals
              case rel => exact ⟨rfl, (hbx.drew).trans (hb1.mono s1)⟩
          case rest =>
            obtain ⟨rfl, hbc⟩ := hcut
            go_wp2_with fail
            go_ret
            exact ⟨by rw [HBI.out, ← HI.out]; rfl, hbc⟩
        · have hib2 : i + 1 ≤ b := by omega
          have HK : Hid (sameK (A i) (R i) (L i) (A j) (R j) (L j) = false) := HF.out i (by omega)
          clear hib
          generalize sameK (A i) (R i) (L i) (A j) (R j) (L j) = o at *
          obtain rfl : o = false := HK.out
          clear hbw s0
          go_upto_region 10 with fail
          go_cut [37] from 29 to 37 (fun v wc => v = .bool false ∧ Below w.heap.size w wc)
          case first =>
            go_region_with (go_at_call 34; refine HC.out.mono ?_; rintro e w1 ⟨rfl, hb1⟩)
            all_goals
              go_wp2_with fail
              go_meet
            all_goals
              case rel => exact ⟨rfl, (hbx.drew).trans (hb1.mono s1)⟩
          case rest =>
            obtain ⟨rfl, hbc⟩ := hcut
            go_wp2_with fail
            go_roundw
            case rel => exact ⟨i + 1, by go_num, by omega, hbc⟩
            case measure => simp [intOf]; omega
end Go.Proofs.Qxb6603393a.Ty
