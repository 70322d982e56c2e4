/- The plain law of FnTallySpec: the first message of the greatest key. -/
import Derived.Test.Qxb6603393aTally6
namespace Go.Proofs.Qxb6603393a.Ty

/-- The two keys are one. -/
def sameK (a1 r1 : Int) (l1 : Bool) (a2 r2 : Int) (l2 : Bool) : Bool := decide (a1 = a2 ∧ r1 = r2 ∧ l1 = l2)

theorem outr_iff (a1 r1 a2 r2 : Int) (l1 l2 : Bool) : outr a1 r1 l1 a2 r2 l2 = true ↔ (a2 < a1 ∨ (a1 = a2 ∧ (r2 < r1 ∨ (r1 = r2 ∧ l1 = true ∧ l2 = false)))) := by
  unfold outr abv
  by_cases h1 : a1 = a2
  · rw [if_pos h1]
    by_cases h2 : r1 = r2
    · rw [if_pos h2]
      cases l1 <;> cases l2 <;> simp <;> omega
    · rw [if_neg h2]
      simp only [decide_eq_true_eq]
      constructor
      · intro h; exact .inr ⟨h1, .inl h⟩
      · rintro (h | ⟨-, h | ⟨h, -⟩⟩)
        · omega
        · exact h
        · exact absurd h h2
  · rw [if_neg h1]
    simp only [decide_eq_true_eq]
    constructor
    · intro h; exact .inl h
    · rintro (h | ⟨h, -⟩)
      · exact h
      · exact absurd h h1

/-- Message i's key stands above message j's. -/
def Gt (A R : Nat → Int) (L : Nat → Bool) (i j : Nat) : Prop := A j < A i ∨ (A i = A j ∧ (R j < R i ∨ (R i = R j ∧ L i = true ∧ L j = false)))

variable {A R : Nat → Int} {L : Nat → Bool}

theorem gt_le_le {i j k : Nat} (h1 : ¬ Gt A R L i j) (h2 : ¬ Gt A R L j k) : ¬ Gt A R L i k := by
  unfold Gt at *
  generalize L i = li at *
  generalize L j = lj at *
  generalize L k = lk at *
  cases li <;> cases lj <;> cases lk <;> simp at * <;> omega

theorem gt_asymm {i j : Nat} (h1 : Gt A R L i j) : ¬ Gt A R L j i := by
  unfold Gt at *
  generalize L i = li at *
  generalize L j = lj at *
  cases li <;> cases lj <;> simp at * <;> omega

theorem gt_irrefl (i : Nat) : ¬ Gt A R L i i := by
  unfold Gt
  generalize L i = li
  cases li <;> simp

theorem same_iff (i j : Nat) : sameK (A i) (R i) (L i) (A j) (R j) (L j) = true ↔ ¬ Gt A R L i j ∧ ¬ Gt A R L j i := by
  unfold sameK Gt
  simp only [decide_eq_true_eq]
  generalize L i = li
  generalize L j = lj
  cases li <;> cases lj <;> simp <;> omega

/-- The last index that the first loop of tallyFirstHighest holds. -/
def lastI (A R : Nat → Int) (L : Nat → Bool) : Nat → Nat
  | 0 => 0
  | 1 => 0
  | k + 2 => if outr (A (lastI A R L (k + 1))) (R (lastI A R L (k + 1))) (L (lastI A R L (k + 1))) (A (k + 1)) (R (k + 1)) (L (k + 1)) = true then lastI A R L (k + 1) else k + 1

theorem last_lt : ∀ k, 1 ≤ k → lastI A R L k < k
  | 1, _ => by simp [lastI]
  | k + 2, _ => by
      have := last_lt (k + 1) (by omega)
      rw [lastI]
      split <;> omega

theorem last_max : ∀ k i, i < k → ¬ Gt A R L i (lastI A R L k)
  | 0, i, h => by omega
  | 1, i, h => by
      obtain rfl : i = 0 := by omega
      exact gt_irrefl _
  | k + 2, i, h => by
      have ih := last_max (k + 1)
      rw [lastI]
      split
      · rename_i hh
        have hg : Gt A R L (lastI A R L (k + 1)) (k + 1) := (outr_iff _ _ _ _ _ _).1 hh
        by_cases e : i < k + 1
        · exact ih i e
        · obtain rfl : i = k + 1 := by omega
          exact gt_asymm hg
      · rename_i hh
        have hg : ¬ Gt A R L (lastI A R L (k + 1)) (k + 1) := fun h => hh ((outr_iff _ _ _ _ _ _).2 h)
        by_cases e : i < k + 1
        · exact gt_le_le (ih i e) hg
        · obtain rfl : i = k + 1 := by omega
          exact gt_irrefl _

theorem best_first : ∀ k, (∀ i, i < k → ¬ Gt A R L i (bestI A R L k)) ∧ (∀ i, i < bestI A R L k → Gt A R L (bestI A R L k) i)
  | 0 => ⟨fun i h => by omega, fun i h => by simp [bestI] at h⟩
  | k + 1 => by
      obtain ⟨ih1, ih2⟩ := best_first k
      have hl := bestI_lt A R L k
      rw [bestI]
      split
      · rename_i hh
        have hg : Gt A R L k (bestI A R L k) := (outr_iff _ _ _ _ _ _).1 hh
        refine ⟨fun i hi => ?_, fun i hi => ?_⟩
        · by_cases e : i < k
          · exact gt_le_le (ih1 i e) (gt_asymm hg)
          · obtain rfl : i = k := by omega
            exact gt_irrefl _
        · rcases Classical.em (Gt A R L k i) with h | h
          · exact h
          · exact absurd hg (gt_le_le h (ih1 i hi))
      · rename_i hh
        have hg : ¬ Gt A R L k (bestI A R L k) := fun h => hh ((outr_iff _ _ _ _ _ _).2 h)
        refine ⟨fun i hi => ?_, ih2⟩
        by_cases e : i < k
        · exact ih1 i e
        · obtain rfl : i = k := by omega
          exact hg

/-- The first message with the last greatest's key is the best. -/
theorem first_same (m : Nat) (hm : 1 ≤ m) : bestI A R L m < m ∧ lastI A R L m < m ∧ sameK (A (bestI A R L m)) (R (bestI A R L m)) (L (bestI A R L m)) (A (lastI A R L m)) (R (lastI A R L m)) (L (lastI A R L m)) = true ∧
    ∀ i, i < bestI A R L m → sameK (A i) (R i) (L i) (A (lastI A R L m)) (R (lastI A R L m)) (L (lastI A R L m)) = false := by
  have h1 := bestI_lt A R L m
  have h2 := last_lt (A := A) (R := R) (L := L) m hm
  obtain ⟨b1, b2⟩ := best_first (A := A) (R := R) (L := L) m
  have hb : bestI A R L m < m := by omega
  refine ⟨hb, h2, (same_iff _ _).2 ⟨last_max m _ hb, b1 _ h2⟩, fun i hi => ?_⟩
  rcases Bool.eq_false_or_eq_true (sameK (A i) (R i) (L i) (A (lastI A R L m)) (R (lastI A R L m)) (L (lastI A R L m))) with h | h
  · have h3 := (same_iff _ _).1 h
    exact absurd (b2 i hi) (gt_le_le (last_max m _ hb) h3.2)
  · exact h
end Go.Proofs.Qxb6603393a.Ty
