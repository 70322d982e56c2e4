/- The plain law: a number written with leading zeros and underscores reads back. -/
import Derived.Test.Qxb6603772aLaw2
namespace Go.Proofs.Qxb6603772a.Pl

/-- Is an underscore written ahead of the digit at place k? -/
def usAt (every : Int) (k : Nat) : Bool := decide (0 < every) && decide (0 < k) && decide ((k : Int) % every = 0)

/-- The bytes l, the first of which stands at place k, with their underscores. -/
def us (every : Int) : Nat → List Int → List Int
  | _, [] => []
  | k, c :: r => (if usAt every k = true then [95, c] else [c]) ++ us every (k + 1) r

theorem us_length (every : Int) (l : List Int) : ∀ k, (us every k l).length ≤ 2 * l.length := by
  induction l with
  | nil => intro k; simp [us]
  | cons c r ih =>
    intro k
    have := ih (k + 1)
    rw [us]
    split
    · simp; omega
    · simp; omega

theorem usAt_pos {every : Int} {k : Nat} (h : usAt every k = true) : 0 < k := by
  unfold usAt at h
  simp at h
  omega

theorem rx_any_pd (b L a c : Int) (l : List Int) (pd pd' : Bool) (h : c ≠ 95) : rx b L pd a (c :: l) = rx b L pd' a (c :: l) := by
  rw [rx, rx, if_neg h, if_neg h]

theorem rx_us_all (b L every : Int) (l : List Int) : ∀ (k : Nat) (a : Int), (∀ c ∈ l, c ≠ 95) → rx b L (decide (0 < k)) a (us every k l) = rx b L (decide (0 < k)) a l := by
  induction l with
  | nil => intro k a _; rfl
  | cons c r ih =>
    intro k a h
    have hc := h c (by simp)
    have hr : ∀ d ∈ r, d ≠ 95 := fun d hd => h d (by simp [hd])
    have key : ∀ pd, rx b L pd a (c :: us every (k + 1) r) = rx b L (decide (0 < k)) a (c :: r) := by
      intro pd
      rw [rx_any_pd b L a c _ pd true hc, rx_any_pd b L a c r (decide (0 < k)) true hc, rx, rx, if_neg hc, if_neg hc]
      have := ih (k + 1) (a * b + hexD c) hr
      rw [decide_eq_true (by omega : 0 < k + 1)] at this
      rw [this]
    rw [us]
    by_cases hu : usAt every k = true
    · rw [if_pos hu]
      have hk := usAt_pos hu
      rw [show ([95, c] : List Int) ++ us every (k + 1) r = 95 :: c :: us every (k + 1) r from rfl]
      rw [decide_eq_true hk, rx_us rfl, key false, decide_eq_true hk]
    · rw [if_neg hu]
      exact key _

theorem rx_zeros (b L : Int) (hb : 2 ≤ b) (hL : 0 < L) (rest : List Int) : ∀ (z : Nat) (pd : Bool), ∃ pd', rx b L pd 0 (List.replicate z 48 ++ rest) = rx b L pd' 0 rest := by
  intro z
  induction z with
  | zero => intro pd; exact ⟨pd, rfl⟩
  | succ z ih =>
    intro pd
    obtain ⟨pd', h⟩ := ih true
    refine ⟨pd', ?_⟩
    rw [List.replicate_succ, List.cons_append, rx_dig (by omega) (by unfold hexD; simp; omega) hL]
    have e : (0 : Int) * b + hexD 48 = 0 := by simp [hexD]
    rw [e]
    exact h

theorem digS_no95 (b v : Int) (hb : 2 ≤ b) (hb2 : b ≤ 16) (up : Bool) : ∀ c ∈ digS b v up, c ≠ 95 := by
  intro c hc
  unfold digS at hc
  rw [List.mem_map] at hc
  obtain ⟨d, hd, rfl⟩ := hc
  have := digR_range b hb 64 v d (by simpa using hd)
  exact (hexD_dch d up this.1 (by omega)).2.1

/-- The body: zeros, then the digits. -/
def bodyP (b v : Int) (up : Bool) (z : Nat) : List Int := List.replicate z 48 ++ digS b v up

theorem rx_body (b L v every : Int) (hb : 2 ≤ b) (hb2 : b ≤ 16) (hL : 0 < L) (hM : L * b = 18446744073709551616) (h64 : (18446744073709551616 : Int) ≤ b ^ 64) (up : Bool) (z : Nat) (h0 : 0 ≤ v) (h1 : v ≤ 18446744073709551615) :
    rx b L false 0 (us every 0 (bodyP b v up z)) = some v := by
  have hn : ∀ c ∈ bodyP b v up z, c ≠ 95 := by
    intro c hc
    unfold bodyP at hc
    rcases List.mem_append.1 hc with h | h
    · have := List.eq_of_mem_replicate h; omega
    · exact digS_no95 b v hb hb2 up c h
  have h := rx_us_all b L every (bodyP b v up z) 0 0 hn
  rw [decide_eq_false (by omega : ¬ 0 < 0)] at h
  rw [h]
  unfold bodyP
  obtain ⟨pd', h2⟩ := rx_zeros b L hb hL (digS b v up) z false
  rw [h2]
  have h3 := rx_digS b L v hb hb2 hM h64 up pd' h0 h1 []
  rw [List.append_nil] at h3
  rw [h3, rx_end]

theorem bodyP_bytes (b v : Int) (hb : 2 ≤ b) (hb2 : b ≤ 16) (up : Bool) (z : Nat) : ∀ c ∈ bodyP b v up z, 0 ≤ c ∧ c ≤ 255 := by
  intro c hc
  unfold bodyP at hc
  rcases List.mem_append.1 hc with h | h
  · have := List.eq_of_mem_replicate h; omega
  · exact digS_bytes b v hb hb2 up c h

theorem us_bytes (every : Int) (l : List Int) : ∀ k, (∀ c ∈ l, 0 ≤ c ∧ c ≤ 255) → ∀ c ∈ us every k l, 0 ≤ c ∧ c ≤ 255 := by
  induction l with
  | nil => intro k _ c hc; simp [us] at hc
  | cons d r ih =>
    intro k h c hc
    rw [us] at hc
    rcases List.mem_append.1 hc with h2 | h2
    · have hd := h d (by simp)
      split at h2
      · simp at h2; rcases h2 with rfl | rfl <;> omega
      · simp at h2; subst h2; exact hd
    · exact ih (k + 1) (fun e he => h e (by simp [he])) c h2

end Go.Proofs.Qxb6603772a.Pl
