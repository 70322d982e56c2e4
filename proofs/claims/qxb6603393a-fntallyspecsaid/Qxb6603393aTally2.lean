/- The walks of the tally itself. -/
import Derived.Test.Qxb6603393aTally1
namespace Go.Proofs.Qxb6603393a.Ty
set_option linter.unusedVariables false
set_option linter.unusedSimpArgs false
open Go.ChangeShapes Go.WideShapes Go.ChangeAt Go.RowKit

set_option maxHeartbeats 400000 in
theorem decide_any (p : Nat) (id n t ch cs dv dr : Int) (dd : Bool) (ti : Int) (lt : Bool) (v r : Int) (w : World) (hp : w.heap[p]? = some (.cells (Cd id n t ch cs dv dr dd ti lt) 76 (0, 0))) :
    Calls Try.prog 40 #[.pointer (some ⟨p, 10, none⟩), .int .i64 v, .int .i64 r] w fun e w' => e = .returned (.tuple #[]) ∧ w'.heap[p]? = some (.cells (Cd id n t ch cs v r true (if lt = true then wrap64 (r + 1) else ti) lt) 76 (0, 0)) ∧ Below p w w' := by
  have h10 : w.cell? ⟨p, 10, none⟩ = some (.int .i64 dv) := blk_cell hp
  have h11 : w.cell? ⟨p, 11, none⟩ = some (.int .i64 dr) := blk_cell hp
  have h12 : w.cell? ⟨p, 12, none⟩ = some (.bool dd) := blk_cell hp
  have h13 : w.cell? ⟨p, 13, none⟩ = some (.int .i64 ti) := blk_cell hp
  have h14 : w.cell? ⟨p, 14, none⟩ = some (.bool lt) := blk_cell hp
  have hf : ∀ j, w.frozen? ⟨p, j, none⟩ = false := fun j => blk_free hp
  have HP : Hid (w.heap[p]? = some (.cells (Cd id n t ch cs dv dr dd ti lt) 76 (0, 0))) := hp
  clear hp
  cases lt
  · go_enter Try.func40, Try.ntmps40
    go_wp2
    refine bodyPost_end (results_none rfl _ _ _) rfl ⟨rfl, ?_, ?_⟩
    · rw [blk_set _ (blk_set _ (blk_set _ HP.out))]; simp [Cd]
    · exact bl_set (bl_set (bl_set (Below.refl _ _) _ _) _ _) _ _
  · go_enter Try.func40, Try.ntmps40
    go_wp2
    refine bodyPost_end (results_none rfl _ _ _) rfl ⟨rfl, ?_, ?_⟩
    · rw [blk_set _ (blk_set _ (blk_set _ (blk_set _ HP.out)))]; simp [Cd]
    · exact bl_set (bl_set (bl_set (bl_set (Below.refl _ _) _ _) _ _) _ _) _ _
end Go.Proofs.Qxb6603393a.Ty
