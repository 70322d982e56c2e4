/- The walks of the smallest functions of the tally laws. -/
import Derived.Test.Qxb6603393aRows
import Derived.WalkKit
import Derived.ProofKit
import Derived.Handy
import Derived.WalkSpells
import Derived.Deep.QuietTactic
import Derived.BigQuiet
import Derived.BigRegion
namespace Go.Proofs.Qxb6603393a.Ty
set_option linter.unusedVariables false
set_option linter.unusedSimpArgs false
open Go.ChangeShapes Go.WideShapes Go.ChangeAt Go.RowKit

theorem bcell {W w1 : World} (hb : Below W.heap.size W w1) : (∀ b o, b < W.heap.size → w1.cell? ⟨b, o, none⟩ = W.cell? ⟨b, o, none⟩) ∧ (∀ b o, b < W.heap.size → w1.frozen? ⟨b, o, none⟩ = W.frozen? ⟨b, o, none⟩) :=
  ⟨fun b o h => hb.cell (p := ⟨b, o, none⟩) h, fun b o h => hb.frozen (p := ⟨b, o, none⟩) h⟩

theorem Below.drewN {B : Nat} {a w : World} (h : Below B a w) (n : Nat) : Below B a (w.drewN n) := ⟨h.os, h.tape, h.output, h.size, h.block⟩

theorem ret_bool {a b : Bool} (h : a = b) : Ending.returned (.bool a) = .returned (.bool b) := by rw [h]

/-- Standing (r1, l1) is above (r2, l2). -/
def abv (r1 : Int) (l1 : Bool) (r2 : Int) (l2 : Bool) : Bool := if r1 = r2 then l1 && !l2 else decide (r2 < r1)

set_option maxHeartbeats 400000 in
theorem above_any (r1 r2 : Int) (l1 l2 : Bool) (w : World) :
    Calls Try.prog 45 #[.agg #[.int .i64 r1, .bool l1], .agg #[.int .i64 r2, .bool l2]] w fun e w' => e = .returned (.bool (abv r1 l1 r2 l2)) ∧ Below w.heap.size w w' := by
  by_cases h : r1 = r2
  · have h' : (r1 != r2) = false := by rw [h]; simp
    have HA : Hid (abv r1 l1 r2 l2 = (l1 && !l2)) := by show _ = _; unfold abv; rw [if_pos h]
    clear h
    cases l1
    all_goals
      go_enter Try.func45, Try.ntmps45
      go_wp2
      go_ret
      exact ⟨ret_bool (by rw [HA.out]; rfl), ((Below.refl _ _).alloc (Nat.le_refl _) _).alloc (by simp) _⟩
  · have h' : (r1 != r2) = true := by rw [bne_iff_ne]; exact h
    have HA : Hid (abv r1 l1 r2 l2 = decide (r2 < r1)) := by show _ = _; unfold abv; rw [if_neg h]
    clear h
    go_enter Try.func45, Try.ntmps45
    go_wp2
    go_ret
    exact ⟨ret_bool (by rw [HA.out]), ((Below.refl _ _).alloc (Nat.le_refl _) _).alloc (by simp) _⟩

set_option maxHeartbeats 400000 in
theorem standingOf_any (b o : Nat) (r : Int) (l : Bool) (w : World) (hb : b < w.heap.size) (h6 : w.cell? ⟨b, o + 6, none⟩ = some (.int .i64 r)) (h7 : w.cell? ⟨b, o + 7, none⟩ = some (.bool l)) :
    Calls Try.prog 44 #[.pointer (some ⟨b, o, none⟩)] w fun e w' => e = .returned (.agg #[.int .i64 r, .bool l]) ∧ Below w.heap.size w w' := by
  have hne : b ≠ w.heap.size := by omega
  go_enter Try.func44, Try.ntmps44
  go_wp2
  go_region
  go_wp2
  exact bodyPost_ret (v := .agg #[.int .i64 r, .bool l]) (by simp [results, Try.results44, go_sem]) rfl ⟨rfl, ((Below.refl _ _).alloc (Nat.le_refl _) _).drew⟩

/-- Estimate (a1, r1, l1) outranks (a2, r2, l2). -/
def outr (a1 r1 : Int) (l1 : Bool) (a2 r2 : Int) (l2 : Bool) : Bool := if a1 = a2 then abv r1 l1 r2 l2 else decide (a2 < a1)

set_option maxHeartbeats 1000000 in
theorem outranks_any (b o1 o2 : Nat) (a1 r1 a2 r2 : Int) (l1 l2 : Bool) (w : World) (hb : b < w.heap.size)
    (h15 : w.cell? ⟨b, o1 + 5, none⟩ = some (.int .i64 a1)) (h16 : w.cell? ⟨b, o1 + 6, none⟩ = some (.int .i64 r1)) (h17 : w.cell? ⟨b, o1 + 7, none⟩ = some (.bool l1))
    (h25 : w.cell? ⟨b, o2 + 5, none⟩ = some (.int .i64 a2)) (h26 : w.cell? ⟨b, o2 + 6, none⟩ = some (.int .i64 r2)) (h27 : w.cell? ⟨b, o2 + 7, none⟩ = some (.bool l2)) :
    Calls Try.prog 39 #[.pointer (some ⟨b, o1, none⟩), .pointer (some ⟨b, o2, none⟩)] w fun e w' => e = .returned (.bool (outr a1 r1 l1 a2 r2 l2)) ∧ Below w.heap.size w w' := by
  by_cases h : a1 = a2
  · have h' : (a1 != a2) = false := by rw [h]; simp
    have HA : Hid (outr a1 r1 l1 a2 r2 l2 = abv r1 l1 r2 l2) := by show _ = _; unfold outr; rw [if_pos h]
    clear h
    go_enter Try.func39, Try.ntmps39
    go_wp2
    go_quiet (fail)
    go_wp2_with fail
    refine (standingOf_any b o1 r1 l1 _ (by simpa using hb) (by simpa using h16) (by simpa using h17)).mono ?_
    rintro e w1 ⟨rfl, hb1⟩
    have s1 := hb1.size
    have c1 := (bcell hb1).1
    go_wp2_with fail
    refine (standingOf_any b o2 r2 l2 _ (by simp at s1; omega) (by rw [c1 b _ (by simpa using hb)]; simpa using h26) (by rw [c1 b _ (by simpa using hb)]; simpa using h27)).mono ?_
    rintro e w2 ⟨rfl, hb2⟩
    go_wp2_with fail
    refine (above_any r1 r2 l1 l2 _).mono ?_
    rintro e w3 ⟨rfl, hb3⟩
    have s2 := hb2.size
    clear c1
    go_wp2_with fail
    go_ret
    refine ⟨ret_bool (by rw [HA.out]), ?_⟩
    have k1 : Below w.heap.size w w1 := Below.trans (Below.drewN (Below.refl _ _) _) hb1
    exact (k1.trans (hb2.mono (by simpa using s1))).trans (hb3.mono (by simp at s1; omega))
  · have h' : (a1 != a2) = true := by rw [bne_iff_ne]; exact h
    have HA : Hid (outr a1 r1 l1 a2 r2 l2 = decide (a2 < a1)) := by show _ = _; unfold outr; rw [if_neg h]
    clear h
    go_enter Try.func39, Try.ntmps39
    go_wp2
    go_quiet (fail)
    go_wp2_with fail
    go_quiet (fail)
    go_wp2_with fail
    go_ret
    exact ⟨ret_bool (by rw [HA.out]), Below.drewN (Below.drewN (Below.refl _ _) _) _⟩

set_option maxHeartbeats 400000 in
theorem leads_any (p : Nat) (id n c c1 : Int) (w : World) (hn : 1 ≤ n) (hc : wrap64 (c1 - 1) = c)
    (h0 : w.cell? ⟨p, 0, none⟩ = some (.int .i64 id)) (h1 : w.cell? ⟨p, 1, none⟩ = some (.int .i64 n)) :
    Calls Try.prog 41 #[.pointer (some ⟨p, 0, none⟩), .int .i64 c1] w fun e w' => e = .returned (.bool (wrap64 (c.tmod n + 1) == id)) ∧ ∃ k, w' = w.drewN k := by
  have hz : (n == 0) = false := by simp; omega
  go_enter Try.func41, Try.ntmps41
  go_wp2
  go_quiet (fail)
  go_wp2_with fail
  go_ret
  exact ⟨rfl, _, rfl⟩

theorem blk_cell {w : World} {p j : Nat} {C : Array Value} {t : TypeId} {fr : Nat × Nat} (h : w.heap[p]? = some (.cells C t fr)) : w.cell? ⟨p, j, none⟩ = C[j]? := by
  simp [World.cell?, h]
theorem blk_free {w : World} {p j : Nat} {C : Array Value} {t : TypeId} (h : w.heap[p]? = some (.cells C t (0, 0))) : w.frozen? ⟨p, j, none⟩ = false := by
  simp [World.frozen?, h]
theorem blk_set {w : World} {p j : Nat} {C : Array Value} {t : TypeId} {fr : Nat × Nat} (v : Value) (h : w.heap[p]? = some (.cells C t fr)) : (w.setCell ⟨p, j, none⟩ v).heap[p]? = some (.cells (C.setIfInBounds j v) t fr) := by
  simp [World.setCell, Array.getElem?_modify, h]

/-- The coordinator's 15 cells. -/
def Cd (id n t ch cs dv dr : Int) (dd : Bool) (ti : Int) (lt : Bool) : Array Value :=
  #[.int .i64 id, .int .i64 n, .int .i64 t, .int .i64 0, .int .i64 0, .int .i64 0, .int .i64 0, .bool false, .int .i64 ch, .int .i64 cs, .int .i64 dv, .int .i64 dr, .bool dd, .int .i64 ti, .bool lt]

theorem bl_set {p : Nat} {a w : World} (h : Below p a w) (j : Nat) (v : Value) : Below p a (w.setCell ⟨p, j, none⟩ v) := h.setCell (p := ⟨p, j, none⟩) (Nat.le_refl p) v
end Go.Proofs.Qxb6603393a.Ty
