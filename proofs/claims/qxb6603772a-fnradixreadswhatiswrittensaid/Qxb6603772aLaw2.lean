/- The plain laws: what is written reads back. -/
import Derived.Test.Qxb6603772aWrite
namespace Go.Proofs.Qxb6603772a.Pl

theorem hexD_dch (d : Int) (up : Bool) (h0 : 0 ≤ d) (h1 : d < 16) : hexD (dch d up) = d ∧ dch d up ≠ 95 ∧ 0 ≤ dch d up ∧ dch d up ≤ 255 := by
  unfold dch hexD
  cases up <;> simp <;> split <;> omega

/-- The value of digits, the greatest first, behind the value a. -/
def val (b : Int) : Int → List Int → Int
  | a, [] => a
  | a, d :: ds => val b (a * b + d) ds

theorem val_snoc (b : Int) (ds : List Int) (d : Int) : ∀ a, val b a (ds ++ [d]) = val b a ds * b + d := by
  induction ds with
  | nil => intro a; rfl
  | cons c r ih => intro a; exact ih _

theorem le_mul (a b : Int) (h0 : 0 ≤ a) (hb : 1 ≤ b) : a ≤ a * b := by
  have := Int.mul_le_mul_of_nonneg_left hb h0
  omega

theorem val_ge (b : Int) (hb : 1 ≤ b) (ds : List Int) : ∀ a, 0 ≤ a → (∀ d ∈ ds, 0 ≤ d ∧ d < b) → a ≤ val b a ds := by
  induction ds with
  | nil => intro a _ _; exact Int.le_refl _
  | cons c r ih =>
    intro a h0 hd
    have hc := hd c (by simp)
    have h1 := le_mul a b h0 hb
    have h2 := ih (a * b + c) (by omega) (fun d h => hd d (by simp [h]))
    rw [val]
    omega

theorem rx_digits (b L : Int) (hb : 2 ≤ b) (hb2 : b ≤ 16) (up : Bool) (ds : List Int) : ∀ (pd : Bool) (a : Int) (rest : List Int), ds ≠ [] → 0 ≤ a → (∀ d ∈ ds, 0 ≤ d ∧ d < b) →
    val b a ds < L * b → rx b L pd a (ds.map (fun d => dch d up) ++ rest) = rx b L true (val b a ds) rest := by
  induction ds with
  | nil => intro pd a rest h; exact (h rfl).elim
  | cons c r ih =>
    intro pd a rest _ h0 hd hv
    have hc := hd c (by simp)
    have hx := hexD_dch c up hc.1 (by omega)
    have hr : ∀ d ∈ r, 0 ≤ d ∧ d < b := fun d h => hd d (by simp [h])
    have h1 := le_mul a b h0 (by omega)
    rw [val] at hv
    have h2 := val_ge b (by omega) r (a * b + c) (by omega) hr
    have hL : a < L := by
      rcases Int.lt_or_le a L with h | h
      · exact h
      · have := Int.mul_le_mul_of_nonneg_right h (by omega : 0 ≤ b)
        omega
    rw [List.map_cons, List.cons_append, rx_dig hx.2.1 (by rw [hx.1]; exact hc.2) hL, hx.1, val]
    cases r with
    | nil => rfl
    | cons c2 r2 => exact ih true (a * b + c) rest (by simp) (by omega) hr hv

theorem digR_range (b : Int) (hb : 2 ≤ b) : ∀ (f : Nat) (v : Int), ∀ d ∈ digR b f v, 0 ≤ d ∧ d < b := by
  intro f
  induction f with
  | zero => intro v d h; simp [digR] at h
  | succ f ih =>
    intro v d h
    rw [digR] at h
    rcases List.mem_cons.1 h with h | h
    · subst h; exact ⟨Int.emod_nonneg _ (by omega), Int.emod_lt_of_pos _ (by omega)⟩
    · split at h
      · simp at h
      · exact ih _ d h

theorem val_digR (b : Int) (hb : 2 ≤ b) : ∀ (f : Nat) (v : Int), 0 ≤ v → v < b ^ (f + 1) → val b 0 (digR b (f + 1) v).reverse = v := by
  intro f
  induction f with
  | zero =>
    intro v h0 h1
    rw [Int.pow_succ] at h1
    simp at h1
    have hm : v % b = v := Int.emod_eq_of_lt h0 h1
    have hz : v / b = 0 := Int.ediv_eq_zero_of_lt h0 h1
    rw [digR, if_pos hz, hm]
    simp [val]
  | succ f ih =>
    intro v h0 h1
    rw [digR, List.reverse_cons, val_snoc]
    have he := Int.mul_ediv_add_emod v b
    rw [Int.mul_comm] at he
    by_cases hz : v / b = 0
    · rw [if_pos hz]
      rw [hz] at he
      simp [val]
      omega
    · rw [if_neg hz, ih (v / b) (Int.ediv_nonneg h0 (by omega)) (Int.ediv_lt_of_lt_mul (by omega) (by rw [← Int.pow_succ]; exact h1))]
      omega

/-- The text of v in base b, read on: the value v, a digit before. -/
theorem rx_digS (b L v : Int) (hb : 2 ≤ b) (hb2 : b ≤ 16) (hM : L * b = 18446744073709551616) (h64 : (18446744073709551616 : Int) ≤ b ^ 64) (up pd : Bool) (h0 : 0 ≤ v) (h1 : v ≤ 18446744073709551615) (rest : List Int) :
    rx b L pd 0 (digS b v up ++ rest) = rx b L true v rest := by
  have hv : val b 0 (digR b 64 v).reverse = v := val_digR b hb 63 v h0 (by show _ < b ^ 64; omega)
  have h := rx_digits b L hb hb2 up (digR b 64 v).reverse pd 0 rest (by simp [digR]) (by omega) (fun d hd => digR_range b hb 64 v d (by simpa using hd)) (by rw [hv, hM]; omega)
  rw [hv] at h
  exact h

theorem digS_bytes (b v : Int) (hb : 2 ≤ b) (hb2 : b ≤ 16) (up : Bool) : ∀ c ∈ digS b v up, 0 ≤ c ∧ c ≤ 255 := by
  intro c hc
  unfold digS at hc
  rw [List.mem_map] at hc
  obtain ⟨d, hd, rfl⟩ := hc
  have := digR_range b hb 64 v d (by simpa using hd)
  have h := hexD_dch d up this.1 (by omega)
  exact ⟨h.2.2.1, h.2.2.2⟩

theorem digR_length (b : Int) : ∀ (f : Nat) (v : Int), (digR b f v).length ≤ f := by
  intro f
  induction f with
  | zero => intro v; simp [digR]
  | succ f ih =>
    intro v
    rw [digR]
    split
    · simp
    · have := ih (v / b); simp; omega

theorem digS_length (b v : Int) (up : Bool) : (digS b v up).length ≤ 64 := by
  unfold digS
  simp
  exact digR_length b 64 v

/-- The text of v with one digit more. -/
theorem rx_more (b L v d : Int) (hb : 2 ≤ b) (hb2 : b ≤ 16) (hM : L * b = 18446744073709551616) (h64 : (18446744073709551616 : Int) ≤ b ^ 64) (up : Bool) (h0 : 0 ≤ v) (h1 : v ≤ 18446744073709551615) (hd0 : 0 ≤ d) (hd1 : d < b) :
    rx b L false 0 (digS b v up ++ [dch d up]) = if v < L then some (v * b + d) else none := by
  rw [rx_digS b L v hb hb2 hM h64 up false h0 h1]
  have h := hexD_dch d up hd0 (by omega)
  by_cases hv : v < L
  · rw [if_pos hv, rx_dig h.2.1 (by rw [h.1]; exact hd1) hv, h.1, rx_end]
  · rw [if_neg hv, rx_big h.2.1 (by omega)]

end Go.Proofs.Qxb6603772a.Pl
