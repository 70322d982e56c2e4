/- The walk of FnTallyDecidesAcknowledged. -/
import Derived.Test.Qxb6603393aTally7
import Derived.Test.Qxb6603393aTally8
namespace Go.Proofs.Qxb6603393a.Ty
set_option linter.unusedVariables false
set_option linter.unusedSimpArgs false
open Go.ChangeShapes Go.WideShapes Go.ChangeAt Go.RowKit

set_option maxHeartbeats 2000000 in
theorem law7_some (id n t ch cs dv dr : Int) (dd : Bool) (ti : Int) (lt : Bool) (c r : Int) (ad : Addr) (m cap : Nat) (V A R : Nat → Int) (L : Nat → Bool) (w : World) (hm : m ≤ 9223372036854775807)
    (hs : Src ad m V A R L w) (hab : ad.block < w.heap.size) (hn2 : n ≤ 9223372036854775807) (hc1 : -9223372036854775808 ≤ c) (hc2 : c ≤ 9223372036854775807) :
    Calls Try.prog 7 #[.agg #[.int .i64 id, .int .i64 n, .int .i64 t, .int .i64 ch, .int .i64 cs, .bool dd, .int .i64 dv, .int .i64 dr, .int .i64 ti, .bool lt], .int .i64 c, .int .i64 r, .slice (some ad) m cap] w fun e w' => e = .returned (.bool true) ∧ Below w.heap.size w w' := by
  have HS : Hid (Src ad m V A R L w) := hs
  clear hs
  go_enter Try.func7, Try.ntmps7
  go_wp2_with fail
  refine (bytes7_any id n t ch cs dv dr dd ti lt c r (some ad) m cap _ hm).mono ?_
  rintro e w1 ⟨rfl, hb1⟩
  have hbx : Below w.heap.size w (w.alloc (.cells #[.int .i64 id, .int .i64 n, .int .i64 t, .int .i64 ch, .int .i64 cs, .bool dd, .int .i64 dv, .int .i64 dr, .int .i64 ti, .bool lt] 39)) := (Below.refl _ _).alloc (Nat.le_refl _) _
  have hst : St w.heap.size id n t ch cs dv dr dd ti lt (w.alloc (.cells #[.int .i64 id, .int .i64 n, .int .i64 t, .int .i64 ch, .int .i64 cs, .bool dd, .int .i64 dv, .int .i64 dr, .int .i64 ti, .bool lt] 39)) := St.of (alloc_at _ _)
  have hsz : w.heap.size < (w.alloc (.cells #[.int .i64 id, .int .i64 n, .int .i64 t, .int .i64 ch, .int .i64 cs, .bool dd, .int .i64 dv, .int .i64 dr, .int .i64 ti, .bool lt] 39)).heap.size := by simp
  have HB1 : Hid (Below w.heap.size w w1 ∧ w.heap.size < w1.heap.size) := ⟨hbx.trans (hb1.mono (Nat.le_of_lt hsz)), Nat.lt_of_lt_of_le hsz hb1.size⟩
  have HT1 : Hid (St w.heap.size id n t ch cs dv dr dd ti lt w1) := hst.below hb1 hsz
  clear hbx hst hsz hb1
  by_cases h1 : m ≤ 1048576
  · by_cases h2 : m ≤ 32768
    · have h1' : decide (m ≤ 1048576) = true := by simp [h1]
      obtain ⟨g0, g1, g2, g3, g4, g5, g6, g7, g8, g9⟩ := HT1.out
      rw [h1']
      generalize hB : w.heap.size = b at *
      go_wp2_with fail
      refine (outside_any id n t ch cs dv dr dd ti lt _).mono ?_
      rintro e w2 ⟨rfl, hb2⟩
      have HB2 : Hid (Below b w w2 ∧ b < w2.heap.size) := ⟨HB1.out.1.trans (hb2.mono (Nat.le_of_lt HB1.out.2)), Nat.lt_of_lt_of_le HB1.out.2 hb2.size⟩
      have HT2 : Hid (St b id n t ch cs dv dr dd ti lt w2) := HT1.out.below hb2 HB1.out.2
      have HS2 : Hid (Src ad m V A R L w2) := HS.out.below HB2.out.1 hab
      clear g0 g1 g2 g3 g4 g5 g6 g7 g8 g9 HT1 HB1 hb2 h1 h1'
      by_cases h3 : outB n t = true
      · rw [h3]
        go_wp2_with fail
        go_ret
        exact ⟨rfl, by rw [hB]; exact HB2.out.1⟩
      · have h3' : outB n t = false := by simpa using h3
        have hn : 1 ≤ n ∧ 0 ≤ t ∧ t < n := by simp [outB] at h3; omega
        obtain ⟨hn, ht, htn⟩ := hn
        rw [h3']
        clear h3 h3'
        obtain ⟨g0, g1, g2, g3, g4, g5, g6, g7, g8, g9⟩ := HT2.out
        go_wp2_with fail
        go_loopw [9, 26] (fun u v wr => wr = w2 ∧ ∃ k : Nat, u = .int .i64 (ackN A c k : Nat) ∧ v = .int .i64 k ∧ k ≤ m ∧ ∀ i, i < k → A i ≤ c) (fun _ v _ => m - (intOf v).toNat)
        case atStart => exact ⟨rfl, 0, rfl, rfl, by omega, by omega⟩
        case round =>
          obtain ⟨rfl, k, rfl, rfl, hk, hle⟩ := hrel
          have HL : Hid (∀ i, i < k → A i ≤ c) := hle
          clear hle
          have b0 := ackN_le A c k
          by_cases hlt : k < m
          · have i1 : (k : Int) < m := by omega
            obtain ⟨f0, f1, f2, f3⟩ := HS2.out k hlt
            by_cases ha : c < A k
            · go_wp2_with fail
              go_ret
              exact ⟨rfl, by rw [hB]; exact HB2.out.1⟩
            · have HN : Hid (∀ i, i < k + 1 → A i ≤ c) := by
                intro i hi
                by_cases e : i < k
                · exact HL.out i e
                · obtain rfl : i = k := by omega
                  omega
              have hh : ((A k == c) = true ∧ Hid (ackN A c (k + 1) = ackN A c k + 1)) ∨ ((A k == c) = false ∧ Hid (ackN A c (k + 1) = ackN A c k)) := by
                by_cases ha : A k = c
                · exact .inl ⟨by rw [ha]; simp, by show _ = _; rw [ackN, if_pos ha]⟩
                · exact .inr ⟨by simp [ha], by show _ = _; rw [ackN, if_neg ha]⟩
              rcases hh with ⟨he, HK⟩ | ⟨he, HK⟩
              all_goals
                go_wp2_with fail
                go_roundw
                case rel => exact ⟨by trivial, k + 1, by rw [HK.out] <;> first | rfl | go_num, by go_num, by omega, HN.out⟩
                case measure => simp [intOf]; omega
          · obtain rfl : k = m := by omega
            have hq : wrap64 (n - t) = n - t := by unfold wrap64; omega
            by_cases hd : (ackN A c k : Int) < n - t
            · go_wp2_with fail
              go_ret
              exact ⟨rfl, by rw [hB]; exact HB2.out.1⟩
            · have hpos : 0 < ackN A c k := by omega
              obtain ⟨hbm, hba⟩ := best_ack A R L c k HL.out hpos
              have HO : Hid (Ton V A R L k c r id n t ch cs dv dr dd ti lt = ⟨ch, cs, V (bestI A R L k), r, true, if lt = true then wrap64 (r + 1) else ti⟩) := by
                show _ = _; unfold Ton; rw [if_pos (by omega)]
              have HC : Hid (Calls Try.prog 22 #[.agg #[.int .i64 id, .int .i64 n, .int .i64 t, .int .i64 ch, .int .i64 cs, .bool dd, .int .i64 dv, .int .i64 dr, .int .i64 ti, .bool lt], .int .i64 c, .int .i64 r, .slice (some ad) k cap] wr fun e w' =>
      e = .returned (.agg #[.int .i64 ch, .int .i64 cs, .bool true, .int .i64 (V (bestI A R L k)), .int .i64 r, .int .i64 (if lt = true then wrap64 (r + 1) else ti)]) ∧ Below wr.heap.size wr w') := by
                refine runTally_any (.slice (some ad) k cap) k V A R L c r id n t ch cs dv dr dd ti lt _ wr HO.out.symm ?_ h2 hn hn2 ht htn hc1 hc2
                intro wx hbx
                have hab2 : ad.block < wr.heap.size := by have := HB2.out.2; omega
                exact messages_any ad k cap V A R L wx (HS2.out.below hbx hab2) (Nat.lt_of_lt_of_le hab2 hbx.size) h2
              clear HO
              have HBest : Hid (bestI A R L k < k ∧ A (bestI A R L k) = c) := ⟨hbm, hba⟩
              generalize bestI A R L k = j at *
              clear hbm hba hpos HL hlt
              go_wp2_with fail
              refine HC.out.mono ?_
              rintro e w3 ⟨rfl, hb3⟩
              have HB3 : Hid (Below b w w3 ∧ b < w3.heap.size) := ⟨HB2.out.1.trans (hb3.mono (Nat.le_of_lt HB2.out.2)), Nat.lt_of_lt_of_le HB2.out.2 hb3.size⟩
              have HT3 : Hid (St b id n t ch cs dv dr dd ti lt w3) := HT2.out.below hb3 HB2.out.2
              have HS3 : Hid (Src ad k V A R L w3) := HS2.out.below hb3 (by have := HB2.out.2; omega)
              have hne : b ≠ w3.heap.size := Nat.ne_of_lt HB3.out.2
              have hne2 : ad.block ≠ w3.heap.size := by have := HB3.out.2; omega
              clear g0 g1 g2 g3 g4 g5 g6 g7 g8 g9 HT2 HS2 HS HC
              have g3 : ∀ o, (w3.alloc o).cell? ⟨b, 3, none⟩ = some (.int .i64 ch) := fun o => (HT3.out.below ((Below.refl _ _).alloc (Nat.le_refl _) o) HB3.out.2).2.2.2.1
              have g4 : ∀ o, (w3.alloc o).cell? ⟨b, 4, none⟩ = some (.int .i64 cs) := fun o => (HT3.out.below ((Below.refl _ _).alloc (Nat.le_refl _) o) HB3.out.2).2.2.2.2.1
              have g8 : ∀ o, (w3.alloc o).cell? ⟨b, 8, none⟩ = some (.int .i64 ti) := fun o => (HT3.out.below ((Below.refl _ _).alloc (Nat.le_refl _) o) HB3.out.2).2.2.2.2.2.2.2.2.1
              have g9 : ∀ o, (w3.alloc o).cell? ⟨b, 9, none⟩ = some (.bool lt) := fun o => (HT3.out.below ((Below.refl _ _).alloc (Nat.le_refl _) o) HB3.out.2).2.2.2.2.2.2.2.2.2
              have HS4 : Hid (∀ o, Src ad k V A R L (w3.alloc o)) := fun o => HS3.out.below ((Below.refl _ _).alloc (Nat.le_refl _) o) (by have := HB3.out.2; omega)
              have HB4 : Hid (∀ o, Below b w (w3.alloc o)) := fun o => HB3.out.1.alloc (Nat.le_of_lt HB3.out.2) o
              clear HT3 HB2 hb3 HS3
              have b1 := HBest.out.1
              cases lt
              all_goals
                go_wp2_with fail
                go_loopw [102] (fun v wr => ∃ i q : Nat, v = .int .i64 i ∧ i ≤ j ∧ ∃ o, wr = (w3.alloc o).drewN q ∧ (w3.alloc o).cell? ⟨w3.heap.size, 3, none⟩ = some (.int .i64 (V j))) (fun v _ => k - (intOf v).toNat)
                case atStart => exact ⟨0, 0, rfl, by omega, _, rfl, by simp⟩
                case round =>
                  obtain ⟨i, q, rfl, hi, o, rfl, hcell⟩ := hrel
                  have i1 : (i : Int) < k := by omega
                  obtain ⟨f0, f1, f2, f3⟩ := HS4.out o i (by omega)
                  have HB5 := HB4.out o
                  have HB6 : Hid (Below b w (w3.alloc o)) := HB5
                  clear HB5
                  generalize hW : w3.alloc o = W4 at *
                  have HW : Hid (w3.alloc o = W4) := hW
                  clear hW
                  by_cases ha : A i = c
                  · have ha' : (A i == c) = true := by rw [ha]; simp
                    by_cases hv : V i = V j
                    · have hv' : (V i == V j) = true := by rw [hv]; simp
                      clear ha hv
                      go_wp2_with fail
                      go_quiet (fail)
                      go_wp2_with fail
                      go_ret
                      exact ⟨rfl, by rw [hB]; exact Below.drewN (Below.drewN HB6.out _) _⟩
                    · have hv' : (V i == V j) = false := by simp [hv]
                      have hij : i + 1 ≤ j := by
                        rcases Nat.lt_or_ge i j with h | h
                        · omega
                        · exact absurd (by rw [show i = j by omega]) hv
                      clear ha hv
                      go_wp2_with fail
                      go_quiet (fail)
                      go_wp2_with fail
                      go_roundw
                      case rel => exact ⟨i + 1, q + _, by go_num, hij, o, by rw [HW.out], by rw [HW.out]; exact hcell⟩
                      case measure => simp [intOf]; omega
                  · have ha' : (A i == c) = false := by simp [ha]
                    have hij : i + 1 ≤ j := by
                      rcases Nat.lt_or_ge i j with h | h
                      · omega
                      · exact absurd (by rw [show i = j by omega]; exact HBest.out.2) ha
                    clear ha
                    go_wp2_with fail
                    go_quiet (fail)
                    go_wp2_with fail
                    go_roundw
                    case rel => exact ⟨i + 1, q + _, by go_num, hij, o, by rw [HW.out], by rw [HW.out]; exact hcell⟩
                    case measure => simp [intOf]; omega
    · have h1' : decide (m ≤ 1048576) = true := by simp [h1]
      rw [h1']
      go_wp2_with fail
      go_ret
      exact ⟨rfl, HB1.out.1⟩
  · have h1' : decide (m ≤ 1048576) = false := by simp [h1]
    rw [h1']
    go_wp2_with fail
    go_ret
    exact ⟨rfl, HB1.out.1⟩

set_option maxHeartbeats 2000000 in
theorem law7_nil (id n t ch cs dv dr : Int) (dd : Bool) (ti : Int) (lt : Bool) (c r : Int) (ao : Option Addr) (cap : Nat) (w : World) (hn2 : n ≤ 9223372036854775807) :
    Calls Try.prog 7 #[.agg #[.int .i64 id, .int .i64 n, .int .i64 t, .int .i64 ch, .int .i64 cs, .bool dd, .int .i64 dv, .int .i64 dr, .int .i64 ti, .bool lt], .int .i64 c, .int .i64 r, .slice ao 0 cap] w fun e w' => e = .returned (.bool true) ∧ Below w.heap.size w w' := by
  go_enter Try.func7, Try.ntmps7
  go_wp2_with fail
  refine (bytes7_any id n t ch cs dv dr dd ti lt c r ao 0 cap _ (by omega)).mono ?_
  rintro e w1 ⟨rfl, hb1⟩
  have hbx : Below w.heap.size w (w.alloc (.cells #[.int .i64 id, .int .i64 n, .int .i64 t, .int .i64 ch, .int .i64 cs, .bool dd, .int .i64 dv, .int .i64 dr, .int .i64 ti, .bool lt] 39)) := (Below.refl _ _).alloc (Nat.le_refl _) _
  have hst : St w.heap.size id n t ch cs dv dr dd ti lt (w.alloc (.cells #[.int .i64 id, .int .i64 n, .int .i64 t, .int .i64 ch, .int .i64 cs, .bool dd, .int .i64 dv, .int .i64 dr, .int .i64 ti, .bool lt] 39)) := St.of (alloc_at _ _)
  have hsz : w.heap.size < (w.alloc (.cells #[.int .i64 id, .int .i64 n, .int .i64 t, .int .i64 ch, .int .i64 cs, .bool dd, .int .i64 dv, .int .i64 dr, .int .i64 ti, .bool lt] 39)).heap.size := by simp
  have HB1 : Hid (Below w.heap.size w w1 ∧ w.heap.size < w1.heap.size) := ⟨hbx.trans (hb1.mono (Nat.le_of_lt hsz)), Nat.lt_of_lt_of_le hsz hb1.size⟩
  have HT1 : Hid (St w.heap.size id n t ch cs dv dr dd ti lt w1) := hst.below hb1 hsz
  clear hbx hst hsz hb1
  have h1' : decide (0 ≤ 1048576) = true := rfl
  obtain ⟨g0, g1, g2, g3, g4, g5, g6, g7, g8, g9⟩ := HT1.out
  rw [h1']
  generalize hB : w.heap.size = b at *
  go_wp2_with fail
  refine (outside_any id n t ch cs dv dr dd ti lt _).mono ?_
  rintro e w2 ⟨rfl, hb2⟩
  have HB2 : Hid (Below b w w2 ∧ b < w2.heap.size) := ⟨HB1.out.1.trans (hb2.mono (Nat.le_of_lt HB1.out.2)), Nat.lt_of_lt_of_le HB1.out.2 hb2.size⟩
  have HT2 : Hid (St b id n t ch cs dv dr dd ti lt w2) := HT1.out.below hb2 HB1.out.2
  clear g0 g1 g2 g3 g4 g5 g6 g7 g8 g9 HT1 HB1 hb2 h1'
  by_cases h3 : outB n t = true
  · rw [h3]
    go_wp2_with fail
    go_ret
    exact ⟨rfl, by rw [hB]; exact HB2.out.1⟩
  · have h3' : outB n t = false := by simpa using h3
    have hn : 1 ≤ n ∧ 0 ≤ t ∧ t < n := by simp [outB] at h3; omega
    obtain ⟨hn, ht, htn⟩ := hn
    rw [h3']
    clear h3 h3'
    obtain ⟨g0, g1, g2, g3, g4, g5, g6, g7, g8, g9⟩ := HT2.out
    have hq : wrap64 (n - t) = n - t := by unfold wrap64; omega
    go_wp2_with fail
    go_loopw [9, 26] (fun u v wr => wr = w2 ∧ u = .int .i64 0 ∧ v = .int .i64 0) (fun _ _ _ => 0)
    case atStart => exact ⟨rfl, rfl, rfl⟩
    case round =>
      obtain ⟨rfl, rfl, rfl⟩ := hrel
      go_wp2_with fail
      go_ret
      exact ⟨rfl, by rw [hB]; exact HB2.out.1⟩
end Go.Proofs.Qxb6603393a.Ty
