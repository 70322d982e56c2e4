/- The plain mathematics of writing a number in a base: no Go in sight. -/
import Derived.Test.Qxb6603772aLaw1
namespace Go.Proofs.Qxb6603772a.Pl

/-- The byte that writes digit d. -/
def dch (d : Int) (upper : Bool) : Int := if d < 10 then 48 + d else if upper = true then 55 + d else 87 + d

/-- The digits of v in base b, the least first. -/
def digR (b : Int) : Nat → Int → List Int
  | 0, _ => []
  | f + 1, v => (v % b) :: (if v / b = 0 then [] else digR b f (v / b))

/-- What b1Digits writes. -/
def digS (b v : Int) (up : Bool) : List Int := (digR b 64 v).reverse.map fun d => dch d up

/-- The state of b1Digits' first loop: the digits es are written, x is left. -/
def DR (b v : Int) (es : List Int) (x : Int) : Prop := es.length < 64 ∧ x < b ^ (64 - es.length) ∧ es ++ digR b (64 - es.length) x = digR b 64 v

theorem DR_start (b v : Int) (h : v < b ^ 64) : DR b v [] v := ⟨by simp, by simpa using h, by simp⟩

theorem DR_step {b v : Int} {es : List Int} {x : Int} (hb : 2 ≤ b) (hx : 0 ≤ x) (h : DR b v es x) (hz : x / b ≠ 0) : DR b v (es ++ [x % b]) (x / b) := by
  obtain ⟨h1, h2, h3⟩ := h
  obtain ⟨f, hf⟩ : ∃ f, 64 - es.length = f + 1 := ⟨64 - es.length - 1, by omega⟩
  rw [hf] at h2 h3
  have hf' : 64 - (es ++ [x % b]).length = f := by simp; omega
  have hq : x / b < b ^ f := by
    rw [Int.pow_succ] at h2
    exact Int.ediv_lt_of_lt_mul (by omega) h2
  have hq0 : 0 ≤ x / b := Int.ediv_nonneg hx (by omega)
  have hf1 : f ≠ 0 := by
    intro e
    rw [e] at hq
    simp at hq
    omega
  refine ⟨by simp; omega, by rw [hf']; exact hq, ?_⟩
  rw [hf']
  rw [digR, if_neg hz] at h3
  rw [← h3]
  simp

theorem DR_end {b v : Int} {es : List Int} {x : Int} (h : DR b v es x) (hz : x / b = 0) : es ++ [x % b] = digR b 64 v := by
  obtain ⟨h1, h2, h3⟩ := h
  obtain ⟨f, hf⟩ : ∃ f, 64 - es.length = f + 1 := ⟨64 - es.length - 1, by omega⟩
  rw [hf, digR, if_pos hz] at h3
  exact h3

end Go.Proofs.Qxb6603772a.Pl
