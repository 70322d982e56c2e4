/- Shared helpers and the walks of the smallest functions. -/
import Derived.Test.Qxb6603772aRows
import Derived.Test.Qxb6603772aPlain
import Derived.Test.Qxb6603772aBytes
import Derived.WalkKit
import Derived.ProofKit
import Derived.Handy
import Derived.PlainAid
import Derived.Laws.BitsAllLaws
namespace Go.Proofs.Qxb6603772a.Wk
set_option linter.unusedVariables false
set_option linter.unusedSimpArgs false
open Go.ChangeShapes Go.WideShapes Go.ChangeAt Go.RowKit Go.PlainAid
open Go.Proofs.Qxb6603772a.Pl Go.Proofs.Qxb6603772a.Bs

theorem ret_int {k : IntKind} {a b : Int} (h : a = b) : Ending.returned (.int k a) = .returned (.int k b) := by rw [h]
theorem ret_bool {a b : Bool} (h : a = b) : Ending.returned (.bool a) = .returned (.bool b) := by rw [h]

def digB (c : Int) : Bool := decide (48 ≤ c) && decide (c ≤ 57)

set_option maxHeartbeats 400000 in
theorem isDigit_any (c : Int) (w : World) (h0 : 0 ≤ c) (h1 : c ≤ 255) :
    Calls Try.prog 32 #[.int .u8 c] w fun e w' => e = .returned (.bool (digB c)) ∧ w' = w := by
  by_cases a : 48 ≤ c
  · go_enter Try.func32, Try.ntmps32
    go_wp2
    go_ret
    exact ⟨ret_bool (by simp [digB, a]), rfl⟩
  · go_enter Try.func32, Try.ntmps32
    go_wp2
    go_ret
    exact ⟨ret_bool (by simp [digB]; omega), rfl⟩

theorem or32_nat : ∀ c : Nat, c < 256 → (c ||| 32 = c ∨ c ||| 32 = c + 32) ∧ (32 ≤ c % 64 ↔ c ||| 32 = c) := by decide +kernel

theorem or32 (c : Int) (h0 : 0 ≤ c) (h1 : c ≤ 255) : bits .or .u8 c 32 = if 32 ≤ c % 64 then c else c + 32 := by
  obtain ⟨n, rfl⟩ := Int.eq_ofNat_of_zero_le h0
  have h := or32_nat n (by omega)
  have e := u8_or_nat n 32 (by omega) (by omega)
  rw [show ((32 : Nat) : Int) = 32 from rfl] at e
  rw [e]
  split <;> omega

theorem ret_two {k : IntKind} {a b : Int} {p q : Bool} (h : a = b) (h2 : p = q) : Ending.returned (.tuple #[.int k a, .bool p]) = .returned (.tuple #[.int k b, .bool q]) := by rw [h, h2]

end Go.Proofs.Qxb6603772a.Wk
