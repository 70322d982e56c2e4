/- The walk of tallyMessages. -/
import Derived.Test.Qxb6603393aTally4
namespace Go.Proofs.Qxb6603393a.Ty
set_option linter.unusedVariables false
set_option linter.unusedSimpArgs false
open Go.ChangeShapes Go.WideShapes Go.ChangeAt Go.RowKit

/-- The row of messages, the first k of them written. -/
def Row (g m k : Nat) (V A R : Nat → Int) (L : Nat → Bool) (w : World) : Prop :=
  ∃ C : Array Value, w.heap[g]? = some (.cells C 66 (0, 0)) ∧ C.size = m * 14 ∧ ∀ i, i < k → C[i * 14 + 3]? = some (.int .i64 (V i)) ∧ C[i * 14 + 5]? = some (.int .i64 (A i)) ∧ C[i * 14 + 6]? = some (.int .i64 (R i)) ∧ C[i * 14 + 7]? = some (.bool (L i))

theorem row_step {g m k : Nat} {V A R : Nat → Int} {L : Nat → Bool} {w : World} (h : Row g m k V A R L w) (hk : k < m) (a0 a1 a2 a4 a8 a9 a10 a11 a12 a13 : Value) :
    Row g m (k + 1) V A R L ((((((((((((((w.setCell ⟨g, k * 14, none⟩ a0).setCell ⟨g, k * 14 + 1, none⟩ a1).setCell ⟨g, k * 14 + 2, none⟩ a2).setCell ⟨g, k * 14 + 3, none⟩ (.int .i64 (V k))).setCell ⟨g, k * 14 + 4, none⟩ a4).setCell ⟨g, k * 14 + 5, none⟩ (.int .i64 (A k))).setCell ⟨g, k * 14 + 6, none⟩ (.int .i64 (R k))).setCell ⟨g, k * 14 + 7, none⟩ (.bool (L k))).setCell ⟨g, k * 14 + 8, none⟩ a8).setCell ⟨g, k * 14 + 9, none⟩ a9).setCell ⟨g, k * 14 + 10, none⟩ a10).setCell ⟨g, k * 14 + 11, none⟩ a11).setCell ⟨g, k * 14 + 12, none⟩ a12).setCell ⟨g, k * 14 + 13, none⟩ a13).drew := by
  obtain ⟨C, hC, hs, hc⟩ := h
  have e0 := blk_set (j := k * 14) a0 hC
  have e1 := blk_set (j := k * 14 + 1) a1 e0
  have e2 := blk_set (j := k * 14 + 2) a2 e1
  have e3 := blk_set (j := k * 14 + 3) (.int .i64 (V k)) e2
  have e4 := blk_set (j := k * 14 + 4) a4 e3
  have e5 := blk_set (j := k * 14 + 5) (.int .i64 (A k)) e4
  have e6 := blk_set (j := k * 14 + 6) (.int .i64 (R k)) e5
  have e7 := blk_set (j := k * 14 + 7) (.bool (L k)) e6
  have e8 := blk_set (j := k * 14 + 8) a8 e7
  have e9 := blk_set (j := k * 14 + 9) a9 e8
  have e10 := blk_set (j := k * 14 + 10) a10 e9
  have e11 := blk_set (j := k * 14 + 11) a11 e10
  have e12 := blk_set (j := k * 14 + 12) a12 e11
  have e13 := blk_set (j := k * 14 + 13) a13 e12
  have hd : ∀ u : World, u.drew.heap = u.heap := fun _ => rfl
  refine ⟨_, by rw [hd]; exact e13, by simp only [Array.size_setIfInBounds]; exact hs, ?_⟩
  clear e0 e1 e2 e3 e4 e5 e6 e7 e8 e9 e10 e11 e12 e13 hC
  intro i hi
  by_cases e : i < k
  · obtain ⟨h1, h2, h3, h4⟩ := hc i e
    refine ⟨?_, ?_, ?_, ?_⟩
    · repeat rw [Array.getElem?_setIfInBounds_ne (by omega)]
      exact h1
    · repeat rw [Array.getElem?_setIfInBounds_ne (by omega)]
      exact h2
    · repeat rw [Array.getElem?_setIfInBounds_ne (by omega)]
      exact h3
    · repeat rw [Array.getElem?_setIfInBounds_ne (by omega)]
      exact h4
  · obtain rfl : i = k := by omega
    refine ⟨?_, ?_, ?_, ?_⟩
    all_goals
      repeat rw [Array.getElem?_setIfInBounds_ne (by omega)]
      rw [Array.getElem?_setIfInBounds_self_of_lt (by simp only [Array.size_setIfInBounds]; omega)]

set_option maxHeartbeats 1000000 in
theorem messages_any (ad : Addr) (m cap : Nat) (V A R : Nat → Int) (L : Nat → Bool) (w : World) (hs : Src ad m V A R L w) (hab : ad.block < w.heap.size) (hml : m ≤ 32768) :
    Calls Try.prog 32 #[.slice (some ad) m cap] w fun e w' => e = .returned (.slice (some ⟨w.heap.size, 0, none⟩) m m) ∧ Msgs w.heap.size m V A R L w' ∧ w.heap.size < w'.heap.size ∧ Below w.heap.size w w' := by
  have HS : Hid (Src ad m V A R L w) := hs
  clear hs
  obtain ⟨Z, hZ, hmk⟩ := made66 w m hml
  go_enter Try.func32, Try.ntmps32
  go_wp2_with fail
  generalize hg : w.heap.size = g at *
  go_loopw [10] (fun x wr => ∃ k : Nat, x = .int .i64 k ∧ k ≤ m ∧ Row g m k V A R L wr ∧ Below g w wr) (fun v _ => m - (intOf v).toNat)
  case atStart => exact ⟨0, rfl, by omega, ⟨Z, by rw [← hg]; exact alloc_at _ _, hZ, by omega⟩, (Below.refl _ _).alloc (by omega) _⟩
  case round =>
    obtain ⟨k, rfl, hk, hrow, hbw⟩ := hrel
    have s0 := hbw.size
    have HR : Hid (Row g m k V A R L wr) := hrow
    clear hrow
    by_cases hlt : k < m
    · have i1 : (k : Int) < m := by omega
      obtain ⟨f0, f1, f2, f3⟩ := HS.out.below hbw hab k hlt
      have hq : (ad.add (k * 4)).block < g := by rw [ad_block]; exact hab
      have hne : (ad.add (k * 4)).block ≠ g := by omega
      obtain ⟨C, hC, hCs, hCc⟩ := HR.out
      have hz : ∀ j, j < 14 → ∃ v, wr.cell? ⟨g, k * 14 + j, none⟩ = some v := by
        intro j hj
        rw [blk_cell hC, Array.getElem?_eq_getElem (by omega)]
        exact ⟨_, rfl⟩
      have hf : ∀ j, wr.frozen? ⟨g, j, none⟩ = false := fun j => blk_free hC
      obtain ⟨v0, z0⟩ := hz 0 (by omega)
      obtain ⟨v1, z1⟩ := hz 1 (by omega)
      obtain ⟨v2, z2⟩ := hz 2 (by omega)
      obtain ⟨v3, z3⟩ := hz 3 (by omega)
      obtain ⟨v4, z4⟩ := hz 4 (by omega)
      obtain ⟨v5, z5⟩ := hz 5 (by omega)
      obtain ⟨v6, z6⟩ := hz 6 (by omega)
      obtain ⟨v7, z7⟩ := hz 7 (by omega)
      obtain ⟨v8, z8⟩ := hz 8 (by omega)
      obtain ⟨v9, z9⟩ := hz 9 (by omega)
      obtain ⟨v10, z10⟩ := hz 10 (by omega)
      obtain ⟨v11, z11⟩ := hz 11 (by omega)
      obtain ⟨v12, z12⟩ := hz 12 (by omega)
      obtain ⟨v13, z13⟩ := hz 13 (by omega)
      have z0' : wr.cell? ⟨g, k * 14, none⟩ = some v0 := z0
      have f0' := hf (k * 14)
      clear hz hC hCs hCc
      go_wp2_with fail
      go_region
      go_wp2_with fail
      go_roundw
      case rel =>
        refine ⟨k + 1, by go_num, by omega, row_step HR.out hlt _ _ _ _ _ _ _ _ _ _, ?_⟩
        refine Below.drew ?_
        iterate 14 refine bl_set ?_ _ _
        exact hbw
      case measure => simp [intOf]; omega
    · obtain rfl : k = m := by omega
      have HE : Hid (Msgs w.heap.size k V A R L wr ∧ w.heap.size < wr.heap.size ∧ Below w.heap.size w wr) := by
        rw [hg]
        obtain ⟨C, hC, hCs, hCc⟩ := HR.out
        refine ⟨fun i hi => ?_, ?_, hbw⟩
        · rw [blk_cell hC, blk_cell hC, blk_cell hC, blk_cell hC]; exact hCc i hi
        · rcases Nat.lt_or_ge g wr.heap.size with h | h
          · exact h
          · rw [Array.getElem?_eq_none h] at hC; cases hC
      go_wp2_with fail
      go_ret
      exact ⟨by rw [hg]; rfl, HE.out⟩

set_option maxHeartbeats 1000000 in
theorem messages_nil (V A R : Nat → Int) (L : Nat → Bool) (ao : Option Addr) (cap : Nat) (w : World) :
    Calls Try.prog 32 #[.slice ao 0 cap] w fun e w' => e = .returned (.slice (some ⟨w.heap.size, 0, none⟩) 0 0) ∧ Msgs w.heap.size 0 V A R L w' ∧ w.heap.size < w'.heap.size ∧ Below w.heap.size w w' := by
  obtain ⟨Z, hZ, hmk⟩ := made66 w 0 (by omega)
  have hmk' : (Instr.makeSlice 33 (.int .i64 0) (.int .i64 0)).run Try.prog w = .ok (.slice (some ⟨w.heap.size, 0, none⟩) 0 0) (w.alloc (.cells Z 66)) := hmk
  clear hmk
  have HE : Hid (Msgs w.heap.size 0 V A R L (w.alloc (.cells Z 66)) ∧ w.heap.size < (w.alloc (.cells Z 66)).heap.size ∧ Below w.heap.size w (w.alloc (.cells Z 66))) :=
    ⟨fun i hi => by omega, by simp, (Below.refl _ _).alloc (Nat.le_refl _) _⟩
  go_enter Try.func32, Try.ntmps32
  go_wp2_with fail
  go_loopw [10] (fun x wr => x = .int .i64 0 ∧ wr = w.alloc (.cells Z 66)) (fun _ _ => 0)
  case atStart => exact ⟨rfl, rfl⟩
  case round =>
    obtain ⟨rfl, rfl⟩ := hrel
    go_wp2_with fail
    go_ret
    exact ⟨rfl, HE.out⟩
end Go.Proofs.Qxb6603393a.Ty
