/- The plain law: the model answers as radix does. -/
import Derived.Test.Qxb6603772aPlain
namespace Go.Proofs.Qxb6603772a.Pl

theorem pow_mono (b : Int) (hb : 1 ≤ b) (m n : Nat) (h : m ≤ n) : b ^ m ≤ b ^ n := by
  induction n with
  | zero => have : m = 0 := by omega
            subst this; exact Int.le_refl _
  | succ n ih =>
    by_cases e : m = n + 1
    · subst e; exact Int.le_refl _
    · have h1 := ih (by omega)
      have h2 : b ^ (n + 1) = b ^ n * b := Int.pow_succ b n
      have h3 : 0 ≤ b ^ n := Int.pow_nonneg (by omega)
      have h4 : b ^ n * 1 ≤ b ^ n * b := Int.mul_le_mul_of_nonneg_left hb h3
      omega

theorem pow_pos' (b : Int) (hb : 1 ≤ b) (n : Nat) : 1 ≤ b ^ n := by
  have := pow_mono b hb 0 n (by omega)
  simpa using this

/-- The digits only add to the count: once past 'mx', the model refuses whatever follows. -/
theorem m1_grows (b : Int) (l : List Int) : ∀ (g sg g' sg' : Int), 0 ≤ sg → m1 b g sg l = some (g', sg') → sg ≤ sg' := by
  induction l with
  | nil => intro g sg g' sg' _ h; simp [m1] at h; omega
  | cons c r ih =>
    intro g sg g' sg' h0 h
    rw [m1] at h
    split at h
    · split at h
      · cases h
      · exact ih _ _ _ _ h0 h
    · split at h
      · split at h
        · have := ih _ _ _ _ (by omega) h; omega
        · exact ih _ _ _ _ h0 h
      · cases h

/-- v has n digits in base b. -/
theorem Sig_step {b v d : Int} {n : Nat} (hb : 2 ≤ b) (h : Sig b v n) (hd : 0 ≤ d) (hd2 : d < b) (hp : 0 < n ∨ d ≠ 0) : Sig b (v * b + d) (n + 1) := by
  cases n with
  | zero =>
    have hv : v = 0 := h
    subst hv
    refine ⟨?_, ?_⟩
    · simp; omega
    · rw [Int.pow_succ]; simp; omega
  | succ n =>
    obtain ⟨h1, h2⟩ := h
    have e1 : b ^ (n + 1) = b ^ n * b := Int.pow_succ b n
    have e2 : b ^ (n + 1 + 1) = b ^ (n + 1) * b := Int.pow_succ b (n + 1)
    refine ⟨?_, ?_⟩
    · have := Int.mul_le_mul_of_nonneg_right h1 (by omega : 0 ≤ b)
      omega
    · have h3 : v + 1 ≤ b ^ (n + 1) := by omega
      have := Int.mul_le_mul_of_nonneg_right h3 (by omega : 0 ≤ b)
      have e3 : (v + 1) * b = v * b + b := by rw [Int.add_mul]; omega
      omega

theorem Sig_lt {b v : Int} {n m : Nat} (hb : 2 ≤ b) (h : Sig b v n) : v < b ^ m ↔ n ≤ m := by
  cases n with
  | zero =>
    have hv : v = 0 := h
    have := pow_pos' b (by omega) m
    constructor
    · intro _; omega
    · intro _; omega
  | succ n =>
    obtain ⟨h1, h2⟩ := h
    constructor
    · intro h3
      by_cases e : n + 1 ≤ m
      · exact e
      · have := pow_mono b (by omega) m n (by omega)
        omega
    · intro h3
      have := pow_mono b (by omega) (n + 1) m h3
      omega

theorem Sig_nonneg {b v : Int} {n : Nat} (hb : 2 ≤ b) (h : Sig b v n) : 0 ≤ v := by
  cases n with
  | zero => have hv : v = 0 := h; omega
  | succ n => have := pow_pos' b (by omega) n; have := h.1; omega

/-- The body of the law. mx: the digits that make 64 bits; b ^ mx = 2 ^ 64; L = b ^ (mx - 1). -/
theorem agree (b L : Int) (mx : Nat) (hb : 2 ≤ b) (hL : b ^ mx = L) (hM : b ^ (mx + 1) = 18446744073709551616) (l0 : List Int) :
    ∀ (l : List Int) (g v : Int) (n : Nat), 0 ≤ g → Sig b v n → n ≤ mx + 1 → m2 b 0 l0 = m2 b v l →
      fm b (mx + 1 : Nat) l0 (m1 b g n l) = fin (rx b L (decide (0 < g)) v l) := by
  intro l
  induction l with
  | nil =>
    intro g v n hg hS hn h2
    rw [m1, rx]
    by_cases e : g = 0
    · subst e
      rfl
    · rw [decide_eq_true (by omega : 0 < g), if_pos rfl]
      simp only [fm, fin]
      rw [if_neg e, if_neg (by omega), h2, m2]
  | cons c r ih =>
    intro g v n hg hS hn h2
    rw [m1, rx]
    by_cases hc : c = 95
    · rw [if_pos hc, if_pos hc]
      by_cases e : g = 0
      · subst e
        rfl
      · rw [decide_eq_true (by omega : 0 < g), if_neg e, if_pos rfl]
        rw [m2_us hc] at h2
        exact ih 0 v n (by omega) hS hn h2
    · rw [if_neg hc, if_neg hc]
      by_cases hd : hexD c < b
      · rw [if_pos hd, if_pos hd]
        have hd0 := (hexD_bd c).1
        have hv0 := Sig_nonneg hb hS
        rw [m2_dig hc] at h2
        have hdv : dvP b c = hexD c := by unfold dvP; rw [if_pos hd]
        rw [hdv] at h2
        by_cases hv : v < L
        · rw [if_pos hv]
          have hn' : n ≤ mx := (Sig_lt hb hS).1 (by rw [hL]; exact hv)
          have hmod : (v * b + hexD c) % 18446744073709551616 = v * b + hexD c := by
            have h3 : v + 1 ≤ L := by omega
            have h4 := Int.mul_le_mul_of_nonneg_right h3 (by omega : 0 ≤ b)
            have e3 : (v + 1) * b = v * b + b := by rw [Int.add_mul]; omega
            have e4 : L * b = 18446744073709551616 := by rw [← hL, ← hM, Int.pow_succ]
            have h5 : 0 ≤ v * b := Int.mul_nonneg hv0 (by omega)
            exact Int.emod_eq_of_lt (by omega) (by omega)
          rw [hmod] at h2
          by_cases hp : 0 < (n : Int) ∨ hexD c ≠ 0
          · rw [if_pos hp]
            have := ih (g + 1) (v * b + hexD c) (n + 1) (by omega) (Sig_step hb hS hd0 hd (by omega)) (by omega) h2
            rw [decide_eq_true (by omega : 0 < g + 1)] at this
            exact this
          · rw [if_neg hp]
            have hz : hexD c = 0 := by omega
            have hn0 : n = 0 := by omega
            subst hn0
            have hv' : v = 0 := hS
            subst hv'
            rw [hz] at h2 ⊢
            have := ih (g + 1) (0 * b + 0) 0 (by omega) (by simp [Sig]) (by omega) h2
            rw [decide_eq_true (by omega : 0 < g + 1)] at this
            exact this
        · rw [if_neg hv]
          have hn' : ¬ n ≤ mx := fun h => hv (by rw [← hL]; exact (Sig_lt hb hS).2 h)
          have hn2 : n = mx + 1 := by omega
          rw [if_pos (.inl (by omega))]
          have key := m1_grows b r (g + 1) ((n : Int) + 1)
          cases hm : m1 b (g + 1) ((n : Int) + 1) r with
          | none => rfl
          | some p =>
            have := key p.1 p.2 (by omega) hm
            simp only [fm, fin]
            by_cases e : p.1 = 0
            · rw [if_pos e]
            · rw [if_neg e, if_pos (by omega)]
      · rw [if_neg hd, if_neg hd]
        rfl

theorem model_is_radix (l : List Int) : modelP l = radixP l := by
  unfold modelP radixP
  by_cases h1 : l.length < 2
  · rw [if_pos h1, if_pos h1]
  · rw [if_neg h1, if_neg h1]
    by_cases h2 : l.getD 0 0 ≠ 48
    · rw [if_pos h2, if_pos h2]
    · rw [if_neg h2, if_neg h2]
      by_cases h3 : l.getD 1 0 = 120 ∨ l.getD 1 0 = 88
      · rw [if_pos h3, if_pos h3]
        exact agree 16 L16 15 (by omega) (by decide) (by decide) (l.drop 2) (l.drop 2) 0 0 0 (by omega) rfl (by omega) rfl
      · rw [if_neg h3, if_neg h3]
        by_cases h4 : l.getD 1 0 = 98 ∨ l.getD 1 0 = 66
        · rw [if_pos h4, if_pos h4]
          exact agree 2 L2 63 (by omega) (by decide) (by decide) (l.drop 2) (l.drop 2) 0 0 0 (by omega) rfl (by omega) rfl
        · rw [if_neg h4, if_neg h4]

end Go.Proofs.Qxb6603772a.Pl
