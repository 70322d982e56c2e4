/- The plain law of FnTallyDecidesAcknowledged. -/
import Derived.Test.Qxb6603393aTally6
namespace Go.Proofs.Qxb6603393a.Ty

theorem outr_ge {a1 r1 a2 r2 : Int} {l1 l2 : Bool} (h : outr a1 r1 l1 a2 r2 l2 = true) : a2 ≤ a1 := by
  unfold outr at h
  split at h
  · omega
  · simp at h; omega

theorem outr_le {a1 r1 a2 r2 : Int} {l1 l2 : Bool} (h : ¬ outr a1 r1 l1 a2 r2 l2 = true) : a1 ≤ a2 := by
  unfold outr at h
  split at h
  · omega
  · simp at h; omega

theorem best_max (A R : Nat → Int) (L : Nat → Bool) : ∀ k i, i < k → A i ≤ A (bestI A R L k)
  | 0, i, h => by omega
  | k + 1, i, h => by
      have ih := best_max A R L k
      rw [bestI]
      split
      · rename_i hh
        have h1 := outr_ge hh
        by_cases e : i < k
        · have := ih i e; omega
        · obtain rfl : i = k := by omega
          omega
      · rename_i hh
        have h1 := outr_le hh
        by_cases e : i < k
        · exact ih i e
        · obtain rfl : i = k := by omega
          exact h1

theorem ack_pos (A : Nat → Int) (c : Int) : ∀ k, 0 < ackN A c k → ∃ i, i < k ∧ A i = c
  | 0, h => by simp [ackN] at h
  | k + 1, h => by
      rw [ackN] at h
      split at h
      · exact ⟨k, by omega, by assumption⟩
      · obtain ⟨i, hi, he⟩ := ack_pos A c k h
        exact ⟨i, by omega, he⟩

/-- With an acknowledgement and nothing later, the best carries attempt c. -/
theorem best_ack (A R : Nat → Int) (L : Nat → Bool) (c : Int) (m : Nat) (hle : ∀ i, i < m → A i ≤ c) (hp : 0 < ackN A c m) : bestI A R L m < m ∧ A (bestI A R L m) = c := by
  obtain ⟨i, hi, he⟩ := ack_pos A c m hp
  have h1 := best_max A R L m i hi
  have h2 := bestI_lt A R L m
  have h3 : bestI A R L m < m := by omega
  have h4 := hle _ h3
  exact ⟨h3, by omega⟩
end Go.Proofs.Qxb6603393a.Ty
