/- 'Grown': it goes on; what lay there reads as it did. -/
import Derived.WalkKit
import Derived.Laws.BytesArg
namespace Go.Proofs.Qxb6603772a.Gw
open Go.RowKit

theorem trans {a b c : World} (h : Grown a b) (k : Grown b c) : Grown a c :=
  ⟨World.keptBut_trans h.1 k.1, fun x => (k.2.1 x).trans (h.2.1 x), Nat.le_trans h.2.2 k.2.2⟩

theorem block {W w' : World} (h : Grown W w') (i : Nat) (hi : i < W.heap.size) : w'.heap[i]? = W.heap[i]? := by
  have h3 := h.1.2.2 i hi
  split at h3
  · next c t fr c' t' fr' e1 e2 =>
    obtain ⟨rfl, rfl, _, hj⟩ := h3
    rw [e1, e2]
    have : c' = c := Array.ext_getElem? (fun j => hj j (fun f => f))
    rw [this]
  · next es cl es' cl' e1 e2 =>
    rcases h3 with h3 | ⟨rfl, rfl⟩
    · exact h3.elim
    · rw [e1, e2]
  · exact h3

theorem cell {W w' : World} (h : Grown W w') (a : Addr) (ha : a.block < W.heap.size) : w'.cell? a = W.cell? a := by
  have hb := block h a.block ha
  unfold World.cell?
  rw [hb]

end Go.Proofs.Qxb6603772a.Gw
