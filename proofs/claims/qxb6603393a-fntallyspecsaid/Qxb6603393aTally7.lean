/- The walks of the laws' guards. -/
import Derived.Test.Qxb6603393aTally6
namespace Go.Proofs.Qxb6603393a.Ty
set_option linter.unusedVariables false
set_option linter.unusedSimpArgs false
open Go.ChangeShapes Go.WideShapes Go.ChangeAt Go.RowKit

set_option maxHeartbeats 400000 in
theorem bytes7_any (id n t ch cs dv dr : Int) (dd : Bool) (ti : Int) (lt : Bool) (c r : Int) (ao : Option Addr) (m cap : Nat) (w : World) (hm : m ≤ 9223372036854775807) :
    Calls Try.prog 25 #[.agg #[.int .i64 id, .int .i64 n, .int .i64 t, .int .i64 ch, .int .i64 cs, .bool dd, .int .i64 dv, .int .i64 dr, .int .i64 ti, .bool lt], .int .i64 c, .int .i64 r, .slice ao m cap] w fun e w' => e = .returned (.bool (decide (m ≤ 1048576))) ∧ Below w.heap.size w w' := by
  by_cases h : m ≤ 1048576
  · have HD : Hid (decide (m ≤ 1048576) = true) := by show _ = _; simp [h]
    go_enter Try.func25, Try.ntmps25
    go_wp2_with fail
    go_ret
    exact ⟨ret_bool HD.out.symm, (Below.refl _ _).alloc (Nat.le_refl _) _⟩
  · have HD : Hid (decide (m ≤ 1048576) = false) := by show _ = _; simp; omega
    go_enter Try.func25, Try.ntmps25
    go_wp2_with fail
    go_ret
    exact ⟨ret_bool HD.out.symm, (Below.refl _ _).alloc (Nat.le_refl _) _⟩

set_option maxHeartbeats 400000 in
theorem bytes6_any (id n t ch cs dv dr : Int) (dd : Bool) (ti : Int) (lt : Bool) (c r : Int) (ao : Option Addr) (m cap : Nat) (w : World) (hm : m ≤ 9223372036854775807) :
    Calls Try.prog 20 #[.agg #[.int .i64 id, .int .i64 n, .int .i64 t, .int .i64 ch, .int .i64 cs, .bool dd, .int .i64 dv, .int .i64 dr, .int .i64 ti, .bool lt], .int .i64 c, .int .i64 r, .slice ao m cap] w fun e w' => e = .returned (.bool (decide (m ≤ 1048576))) ∧ Below w.heap.size w w' := by
  by_cases h : m ≤ 1048576
  · have HD : Hid (decide (m ≤ 1048576) = true) := by show _ = _; simp [h]
    go_enter Try.func20, Try.ntmps20
    go_wp2_with fail
    go_ret
    exact ⟨ret_bool HD.out.symm, (Below.refl _ _).alloc (Nat.le_refl _) _⟩
  · have HD : Hid (decide (m ≤ 1048576) = false) := by show _ = _; simp; omega
    go_enter Try.func20, Try.ntmps20
    go_wp2_with fail
    go_ret
    exact ⟨ret_bool HD.out.symm, (Below.refl _ _).alloc (Nat.le_refl _) _⟩

/-- tallyOutside's answer. -/
def outB (n t : Int) : Bool := decide (n < 1 ∨ t < 0 ∨ n ≤ t)

set_option maxHeartbeats 400000 in
theorem outside_any (id n t ch cs dv dr : Int) (dd : Bool) (ti : Int) (lt : Bool) (w : World) :
    Calls Try.prog 21 #[.agg #[.int .i64 id, .int .i64 n, .int .i64 t, .int .i64 ch, .int .i64 cs, .bool dd, .int .i64 dv, .int .i64 dr, .int .i64 ti, .bool lt]] w fun e w' => e = .returned (.bool (outB n t)) ∧ Below w.heap.size w w' := by
  have HB : ∀ b, b = outB n t → Hid (b = outB n t) := fun b h => h
  by_cases h1 : n < 1
  · have HD := HB true (by simp [outB, h1])
    clear HB
    go_enter Try.func21, Try.ntmps21
    go_wp2_with fail
    go_ret
    exact ⟨ret_bool HD.out, (Below.refl _ _).alloc (Nat.le_refl _) _⟩
  · by_cases h2 : t < 0
    · have HD := HB true (by simp [outB, h2])
      clear HB
      go_enter Try.func21, Try.ntmps21
      go_wp2_with fail
      go_ret
      exact ⟨ret_bool HD.out, (Below.refl _ _).alloc (Nat.le_refl _) _⟩
    · have HD := HB (decide (n ≤ t)) (by simp [outB, h1, h2])
      clear HB
      go_enter Try.func21, Try.ntmps21
      go_wp2_with fail
      go_ret
      exact ⟨ret_bool HD.out, (Below.refl _ _).alloc (Nat.le_refl _) _⟩
end Go.Proofs.Qxb6603393a.Ty
