/- 'Kept': what lay in memory at the start lies there still; rows of bytes of the call's own. -/
import Derived.Test.Qxb6603772aGrow
import Derived.Maps.AppendAt
namespace Go.Proofs.Qxb6603772a.Kp
open Go.RowKit

structure Kept (w w' : World) : Prop where
  os : w'.os = w.os
  output : w'.output = w.output
  size : w.heap.size ≤ w'.heap.size
  block : ∀ k, k < w.heap.size → w'.heap[k]? = w.heap[k]?

theorem Kept.refl (w : World) : Kept w w := ⟨rfl, rfl, Nat.le_refl _, fun _ _ => rfl⟩
theorem Kept.trans {a b c : World} (h : Kept a b) (k : Kept b c) : Kept a c :=
  ⟨k.os.trans h.os, k.output.trans h.output, Nat.le_trans h.size k.size, fun i hi => (k.block i (Nat.lt_of_lt_of_le hi h.size)).trans (h.block i hi)⟩
theorem Kept.of_grown {a b : World} (h : Grown a b) : Kept a b := ⟨h.1.1, h.1.2.1, h.2.2, Gw.block h⟩
theorem Kept.drew {a b : World} (h : Kept a b) : Kept a b.drew := ⟨h.os, h.output, h.size, h.block⟩
theorem Kept.alloc {a b : World} (h : Kept a b) (o : Obj) : Kept a (b.alloc o) :=
  h.trans ⟨rfl, rfl, by simp, fun k hk => Below.heap_alloc _ _ _ hk⟩
/-- An append or a make whose row is one of the call's own. -/
theorem Kept.grow {a b c : World} {row : Option Nat} (h : Kept a b) (hg : b.grownBy c row) (hr : ∀ k, row = some k → a.heap.size ≤ k) : Kept a c :=
  ⟨hg.os.trans h.os, hg.output.trans h.output, Nat.le_trans h.size hg.size,
    fun k hk => (hg.block k (Nat.lt_of_lt_of_le hk h.size) (fun e => by have := hr k e.symm; omega)).trans (h.block k hk)⟩
theorem Kept.frame {a b : World} (h : Kept a b) (may : MemPlace → Prop) : a.keptBut b may := by
  refine ⟨h.os, h.output, fun i hi => ?_⟩
  rw [h.block i hi]
  split
  · next e1 e2 =>
    rw [e1] at e2
    simp only [Option.some.injEq, Obj.cells.injEq] at e2
    obtain ⟨rfl, rfl, rfl⟩ := e2
    exact ⟨rfl, rfl, rfl, fun _ _ => rfl⟩
  · next e1 e2 =>
    rw [e1] at e2
    simp only [Option.some.injEq, Obj.map.injEq] at e2
    obtain ⟨rfl, rfl⟩ := e2
    exact .inr ⟨rfl, rfl⟩
  · rfl

/-- The slice at the head of block g, of n bytes and capacity cap, holds the bytes xs. -/
def Row (w : World) (B g cap : Nat) (xs : List Int) : Prop := w.ownsRow B 5 1 (.slice (some ⟨g, 0, none⟩) xs.length cap) xs.length (xs.map (Value.int .u8))

theorem Row.snoc {w : World} {B g cap : Nat} {xs : List Int} {c : Int}
    (h : w.ownsRow B 5 1 (.slice (some ⟨g, 0, none⟩) (xs.length + 1) cap) (xs.length + 1) (xs.map (Value.int .u8) ++ [Value.int .u8 c])) : Row w B g cap (xs ++ [c]) := by
  unfold Row
  simpa using h

theorem Row.own {w : World} {B g cap n : Nat} {xs : List Int} (h : Row w B g cap xs) (hn : xs.length = n) :
    w.ownsRow B 5 1 (.slice (some ⟨g, 0, none⟩) n cap) n (xs.map (Value.int .u8)) := by subst hn; exact h
theorem Row.snocN {w : World} {B g cap n : Nat} {xs : List Int} {c : Int} (hn : xs.length = n)
    (h : w.ownsRow B 5 1 (.slice (some ⟨g, 0, none⟩) (n + 1) cap) (n + 1) (xs.map (Value.int .u8) ++ [Value.int .u8 c])) : Row w B g cap (xs ++ [c]) := by
  subst hn; exact Row.snoc h

/-- The row's cells behind a name, so that the walk's simp does not turn them. -/
theorem Row.named {w : World} {B g cap : Nat} {xs : List Int} (h : Row w B g cap xs) (n : Nat) (hn : xs.length = n) :
    ∃ X, Hid (X = xs.map (Value.int .u8)) ∧ w.ownsRow B 5 1 (.slice (some ⟨g, 0, none⟩) n cap) n X := ⟨_, rfl, h.own hn⟩
theorem Row.snocX {w : World} {B g cap n : Nat} {xs : List Int} {X : List Value} {c : Int} (hX : Hid (X = xs.map (Value.int .u8))) (hn : xs.length = n)
    (h : w.ownsRow B 5 1 (.slice (some ⟨g, 0, none⟩) (n + 1) cap) (n + 1) (X ++ [Value.int .u8 c])) : Row w B g cap (xs ++ [c]) := by
  rw [hX.out] at h; exact Row.snocN hn h

theorem Row.cell {w : World} {B g cap : Nat} {xs : List Int} (h : Row w B g cap xs) (i : Nat) (hi : i < xs.length) : w.cell? ⟨g, i, none⟩ = some (.int .u8 (xs.getD i 0)) := by
  have h2 := World.ownsRow.cellAt h i (by simpa using hi)
  rw [h2]
  simp [hi]

theorem Row.lt {w : World} {B g cap : Nat} {xs : List Int} (h : Row w B g cap xs) : B ≤ g ∧ g < w.heap.size := World.ownsRow.lt h g rfl

theorem Row.other {a b : World} {B g cap gT : Nat} {xs : List Int} (h : Row a B g cap xs) (hg : a.grownBy b (some gT)) (hne : g ≠ gT) : Row b B g cap xs :=
  World.ownsRow.kept h hg (.inr (by simp [Value.ownBlock]; exact hne))
theorem Row.fresh {a b : World} {B g cap : Nat} {xs : List Int} (h : Row a B g cap xs) (hg : a.grownBy b none) : Row b B g cap xs :=
  World.ownsRow.kept h hg (.inr (by simp [Value.ownBlock]))
theorem Row.alloc {a : World} {B g cap : Nat} {xs : List Int} (h : Row a B g cap xs) (o : Obj) : Row (a.alloc o) B g cap xs := World.ownsRow.alloc h o

end Go.Proofs.Qxb6603772a.Kp
