/- The walk of tally. -/
import Derived.Test.Qxb6603393aTally2
import Derived.Deep.DeepCutAuto
import Derived.Deep.CutBlock
import Derived.Deep.RegionWith
namespace Go.Proofs.Qxb6603393a.Ty
set_option linter.unusedVariables false
set_option linter.unusedSimpArgs false
open Go.ChangeShapes Go.WideShapes Go.ChangeAt Go.RowKit

/-- How many of the first k attempts are c. -/
def ackN (A : Nat → Int) (c : Int) : Nat → Nat
  | 0 => 0
  | k + 1 => if A k = c then ackN A c k + 1 else ackN A c k

/-- The index that the loop over the first k messages holds. -/
def bestI (A R : Nat → Int) (L : Nat → Bool) : Nat → Nat
  | 0 => 0
  | k + 1 => if outr (A k) (R k) (L k) (A (bestI A R L k)) (R (bestI A R L k)) (L (bestI A R L k)) = true then k else bestI A R L k

theorem ackN_le (A : Nat → Int) (c : Int) : ∀ k, ackN A c k ≤ k
  | 0 => Nat.le_refl _
  | k + 1 => by have := ackN_le A c k; unfold ackN; split <;> omega

theorem bestI_lt (A R : Nat → Int) (L : Nat → Bool) : ∀ k, (bestI A R L k = 0 ∧ k = 0) ∨ bestI A R L k < k
  | 0 => .inl ⟨rfl, rfl⟩
  | k + 1 => by
      have := bestI_lt A R L k
      right
      show (if _ then _ else _) < _
      split
      · omega
      · omega

/-- The messages' cells, as the tally reads them. -/
def Msgs (g n : Nat) (V A R : Nat → Int) (L : Nat → Bool) (w : World) : Prop :=
  ∀ i, i < n → w.cell? ⟨g, i * 14 + 3, none⟩ = some (.int .i64 (V i)) ∧ w.cell? ⟨g, i * 14 + 5, none⟩ = some (.int .i64 (A i)) ∧ w.cell? ⟨g, i * 14 + 6, none⟩ = some (.int .i64 (R i)) ∧ w.cell? ⟨g, i * 14 + 7, none⟩ = some (.bool (L i))

theorem Msgs.below {g n B : Nat} {V A R : Nat → Int} {L : Nat → Bool} {w w' : World} (h : Msgs g n V A R L w) (hb : Below B w w') (hg : g < B) : Msgs g n V A R L w' := by
  intro i hi
  obtain ⟨h1, h2, h3, h4⟩ := h i hi
  refine ⟨?_, ?_, ?_, ?_⟩
  · rw [hb.cell (p := ⟨g, _, none⟩) hg]; exact h1
  · rw [hb.cell (p := ⟨g, _, none⟩) hg]; exact h2
  · rw [hb.cell (p := ⟨g, _, none⟩) hg]; exact h3
  · rw [hb.cell (p := ⟨g, _, none⟩) hg]; exact h4

/-- The coordinator's cells behind the tally. -/
def Td (V A R : Nat → Int) (L : Nat → Bool) (m : Nat) (c r id n t ch cs dv dr : Int) (dd : Bool) (ti : Int) (lt : Bool) : Array Value :=
  if n - t ≤ (ackN A c m : Int) then Cd id n t ch cs (V (bestI A R L m)) r true (if lt = true then wrap64 (r + 1) else ti) lt
  else if ((wrap64 (c.tmod n + 1) == id) && decide (n - t ≤ (m : Int))) = true then Cd id n t (V (bestI A R L m)) (wrap64 (c + 1)) dv dr dd ti lt
  else Cd id n t ch cs dv dr dd ti lt

set_option maxHeartbeats 1000000 in
theorem tally_any (p g m : Nat) (V A R : Nat → Int) (L : Nat → Bool) (c r id n t ch cs dv dr : Int) (dd : Bool) (ti : Int) (lt : Bool) (w : World)
    (hp : w.heap[p]? = some (.cells (Cd id n t ch cs dv dr dd ti lt) 76 (0, 0))) (hg : g < p) (hps : p < w.heap.size) (hm : Msgs g m V A R L w) (hml : m ≤ 32768)
    (hn : 1 ≤ n) (hn2 : n ≤ 9223372036854775807) (ht : 0 ≤ t) (htn : t < n) (hc1 : -9223372036854775808 ≤ c) (hc2 : c ≤ 9223372036854775807) :
    Calls Try.prog 37 #[.pointer (some ⟨p, 0, none⟩), .int .i64 c, .int .i64 r, .slice (some ⟨g, 0, none⟩) m m] w fun e w' => e = .returned (.tuple #[]) ∧ w'.heap[p]? = some (.cells (Td V A R L m c r id n t ch cs dv dr dd ti lt) 76 (0, 0)) ∧ Below p w w' := by
  have HP : Hid (w.heap[p]? = some (.cells (Cd id n t ch cs dv dr dd ti lt) 76 (0, 0))) := hp
  have HM : Hid (Msgs g m V A R L w) := hm
  clear hp hm
  go_enter Try.func37, Try.ntmps37
  go_wp2_with fail
  go_loopw [8, 9, 13] (fun u v x wr => ∃ k : Nat, u = .int .i64 (ackN A c k : Nat) ∧ v = .int .i64 (bestI A R L k : Nat) ∧ x = .int .i64 k ∧ k ≤ m ∧ Below w.heap.size w wr) (fun _ _ v _ => m - (intOf v).toNat)
  case atStart => exact ⟨0, rfl, rfl, rfl, by omega, Below.refl _ _⟩
  case round =>
    obtain ⟨k, rfl, rfl, rfl, hk, hbw⟩ := hrel
    have s0 := hbw.size
    have b0 := ackN_le A c k
    have b1 := bestI_lt A R L k
    by_cases hlt : k < m
    · have i1 : (k : Int) < m := by omega
      have hj : bestI A R L k < m := by omega
      have i2 : ((bestI A R L k : Nat) : Int) < m := by omega
      have HM2 : Hid (Msgs g m V A R L wr) := HM.out.below hbw (by omega)
      obtain ⟨f3, f5, f6, f7⟩ := HM2.out k hlt
      obtain ⟨e3, e5, e6, e7⟩ := HM2.out _ hj
      have HO : Hid (bestI A R L (k + 1) = if outr (A k) (R k) (L k) (A (bestI A R L k)) (R (bestI A R L k)) (L (bestI A R L k)) = true then k else bestI A R L k) := rfl
      have HC : Hid (Calls Try.prog 39 #[.pointer (some ⟨g, k * 14, none⟩), .pointer (some ⟨g, bestI A R L k * 14, none⟩)] wr.drew fun e w' => e = .returned (.bool (outr (A k) (R k) (L k) (A (bestI A R L k)) (R (bestI A R L k)) (L (bestI A R L k)))) ∧ Below wr.drew.heap.size wr.drew w') :=
        outranks_any g _ _ _ _ _ _ _ _ wr.drew (by show _ < wr.heap.size; omega) f5 f6 f7 e5 e6 e7
      generalize outr (A k) (R k) (L k) (A (bestI A R L k)) (R (bestI A R L k)) (L (bestI A R L k)) = o at *
      have hh : ∃ j : Nat, j = bestI A R L k := ⟨_, rfl⟩
      clear e3 e5 e6 e7 f3 f6 f7 HM2 HM HP b1
      generalize hJ : bestI A R L k = j at *
      have HJ : Hid (bestI A R L k = j) := hJ
      clear hh hJ
      have hh : ((A k == c) = true ∧ Hid (ackN A c (k + 1) = ackN A c k + 1)) ∨ ((A k == c) = false ∧ Hid (ackN A c (k + 1) = ackN A c k)) := by
        by_cases ha : A k = c
        · exact .inl ⟨by rw [ha]; simp, by show _ = _; rw [ackN, if_pos ha]⟩
        · exact .inr ⟨by simp [ha], by show _ = _; rw [ackN, if_neg ha]⟩
      rcases hh with ⟨ha, HK⟩ | ⟨ha, HK⟩
      all_goals
        go_upto_region 7 with fail
        go_cut [31] from 25 to 31 (fun v wc => v = .bool o ∧ Below w.heap.size w wc)
        case first =>
          go_region_with (go_at_call 39; refine HC.out.mono ?_; rintro e w1 ⟨rfl, hb1⟩)
          all_goals
            go_wp2_with fail
            go_meet
          all_goals
            case rel => exact ⟨rfl, (hbw.drew).trans (hb1.mono s0)⟩
        case rest =>
          obtain ⟨rfl, hbc⟩ := hcut
          cases o
          all_goals
            go_wp2_with fail
            go_roundw
            case rel => exact ⟨k + 1, by rw [HK.out] <;> first | rfl | go_num, by rw [HO.out] <;> rfl, by go_num, by omega, hbc⟩
            case measure => simp [intOf]; omega
    · obtain rfl : k = m := by omega
      have hq : wrap64 (n - t) = n - t := by unfold wrap64; omega
      have HB : Hid (wr.heap[p]? = some (.cells (Cd id n t ch cs dv dr dd ti lt) 76 (0, 0))) := by rw [Hid, hbw.block p hps]; exact HP.out
      have f1 : wr.cell? ⟨p, 1, none⟩ = some (.int .i64 n) := blk_cell HB.out
      have f2 : wr.cell? ⟨p, 2, none⟩ = some (.int .i64 t) := blk_cell HB.out
      have f0 : wr.cell? ⟨p, 0, none⟩ = some (.int .i64 id) := blk_cell HB.out
      by_cases hd : n - t ≤ (ackN A c k : Int)
      · have hj : bestI A R L k < k := by omega
        have HT : Hid (Td V A R L k c r id n t ch cs dv dr dd ti lt = Cd id n t ch cs (V (bestI A R L k)) r true (if lt = true then wrap64 (r + 1) else ti) lt) := by
          show _ = _; unfold Td; rw [if_pos hd]
        obtain ⟨e3, -⟩ := HM.out.below hbw (by omega) _ hj
        have HD : Hid (∀ j, Calls Try.prog 40 #[.pointer (some ⟨p, 10, none⟩), .int .i64 (V (bestI A R L k)), .int .i64 r] (wr.drewN j) fun e w' => e = .returned (.tuple #[]) ∧ w'.heap[p]? = some (.cells (Cd id n t ch cs (V (bestI A R L k)) r true (if lt = true then wrap64 (r + 1) else ti) lt) 76 (0, 0)) ∧ Below p (wr.drewN j) w') :=
          fun j => decide_any p id n t ch cs dv dr dd ti lt (V (bestI A R L k)) r _ HB.out
        go_wp2_with fail
        go_quiet (fail)
        go_wp2_with fail
        go_region_with (go_at_call 40; refine (HD.out _).mono ?_; rintro e w1 ⟨rfl, hb1, hb2⟩)
        all_goals
          go_wp2_with fail
          refine bodyPost_ret (results_none rfl _ _ _) rfl ⟨rfl, ?_, ?_⟩
          · rw [HT.out]; exact hb1
          · exact (Below.drewN (hbw.mono (Nat.le_of_lt hps)) _).trans hb2
      · have hcc : wrap64 (wrap64 (c + 1) - 1) = c := by unfold wrap64; omega
        have HL : Hid (∀ a x, Calls Try.prog 41 #[.pointer (some ⟨p, 0, none⟩), .int .i64 (wrap64 (c + 1))] (wr.drewN (a + x)) fun e w' => e = .returned (.bool (wrap64 (c.tmod n + 1) == id)) ∧ ∃ k, w' = wr.drewN (a + k)) := by
          intro a x
          refine (leads_any p id n c _ (wr.drewN (a + x)) hn hcc f0 f1).mono ?_
          rintro e w' ⟨he, k, rfl⟩
          exact ⟨he, x + k, by rw [World.drewN_drewN, Nat.add_assoc]⟩
        have HT : Hid (Td V A R L k c r id n t ch cs dv dr dd ti lt = if ((wrap64 (c.tmod n + 1) == id) && decide (n - t ≤ (k : Int))) = true then Cd id n t (V (bestI A R L k)) (wrap64 (c + 1)) dv dr dd ti lt else Cd id n t ch cs dv dr dd ti lt) := by
          show _ = _; unfold Td; rw [if_neg hd]
        clear hcc
        generalize (wrap64 (c.tmod n + 1) == id) = b at *
        cases b
        · have HT2 : Hid (Td V A R L k c r id n t ch cs dv dr dd ti lt = Cd id n t ch cs dv dr dd ti lt) := by show _ = _; rw [HT.out]; rfl
          go_wp2_with fail
          go_quiet (fail)
          go_wp2_with fail
          go_quiet ((go_at_call 41; exact HL.out _ _))
          go_wp2_with fail
          refine bodyPost_end (results_none rfl _ _ _) rfl ⟨rfl, ?_, ?_⟩
          · rw [HT2.out]; exact HB.out
          · exact Below.drewN (Below.drewN (hbw.mono (Nat.le_of_lt hps)) _) _
        · by_cases hq2 : n - t ≤ (k : Int)
          · have HT2 : Hid (Td V A R L k c r id n t ch cs dv dr dd ti lt = Cd id n t (V (bestI A R L k)) (wrap64 (c + 1)) dv dr dd ti lt) := by show _ = _; rw [HT.out]; simp [hq2]
            have hj : bestI A R L k < k := by omega
            have f8 : wr.cell? ⟨p, 8, none⟩ = some (.int .i64 ch) := blk_cell HB.out
            have f9 : wr.cell? ⟨p, 9, none⟩ = some (.int .i64 cs) := blk_cell HB.out
            have hf : ∀ j, wr.frozen? ⟨p, j, none⟩ = false := fun j => blk_free HB.out
            obtain ⟨e3, -⟩ := HM.out.below hbw (by omega) _ hj
            have e3' : wr.cell? ⟨g, bestI A R L k * 14 + 3, none⟩ = some (.int .i64 (V (bestI A R L k))) := e3
            go_wp2_with fail
            go_quiet (fail)
            go_wp2_with fail
            go_quiet ((go_at_call 41; exact HL.out _ _))
            go_wp2_with fail
            refine bodyPost_end (results_none rfl _ _ _) rfl ⟨rfl, ?_, ?_⟩
            · rw [HT2.out]; rw [blk_set (fr := (0, 0)) _ (blk_set (fr := (0, 0)) _ (w := wr.drewN _) HB.out)]; simp [Cd]
            · exact bl_set (bl_set (Below.drewN (hbw.mono (Nat.le_of_lt hps)) _) _ _) _ _
          · have HT2 : Hid (Td V A R L k c r id n t ch cs dv dr dd ti lt = Cd id n t ch cs dv dr dd ti lt) := by show _ = _; rw [HT.out]; simp [hq2]
            go_wp2_with fail
            go_quiet (fail)
            go_wp2_with fail
            go_quiet ((go_at_call 41; exact HL.out _ _))
            go_wp2_with fail
            refine bodyPost_end (results_none rfl _ _ _) rfl ⟨rfl, ?_, ?_⟩
            · rw [HT2.out]; exact HB.out
            · exact Below.drewN (Below.drewN (hbw.mono (Nat.le_of_lt hps)) _) _
end Go.Proofs.Qxb6603393a.Ty
