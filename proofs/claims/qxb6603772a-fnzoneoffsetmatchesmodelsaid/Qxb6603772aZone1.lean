/- The walks of the small functions of the zone and clock laws. -/
import Derived.Test.Qxb6603772aBase
import Derived.Test.Qxb6603772aGrow
import Derived.Deep.QuietTactic
import Derived.BigQuiet
namespace Go.Proofs.Qxb6603772a.Zn
set_option linter.unusedVariables false
set_option linter.unusedSimpArgs false
open Go.ChangeShapes Go.WideShapes Go.ChangeAt Go.RowKit Go.PlainAid
open Go.Proofs.Qxb6603772a.Bs Go.Proofs.Qxb6603772a.Wk

/-- It returned a bool, an int, a string, of which p holds. -/
def RetB (p : Bool → Prop) (e : Ending) : Prop := ∃ b, e = .returned (.bool b) ∧ p b
def RetI (p : Nat → Prop) (e : Ending) : Prop := ∃ d : Nat, e = .returned (.int .i64 d) ∧ p d
def RetS (p : ByteArray → Prop) (e : Ending) : Prop := ∃ t, e = .returned (.string t) ∧ p t
def RetIB (p : Int → Bool → Prop) (e : Ending) : Prop := ∃ n b, e = .returned (.tuple #[.int .i64 n, .bool b]) ∧ p n b

/-- White space. -/
def spB (c : Int) : Bool := decide (c = 32) || (decide (9 ≤ c) && decide (c ≤ 13))

set_option maxHeartbeats 400000 in
theorem isSpace_any (c : Int) (w : World) (h0 : 0 ≤ c) (h1 : c ≤ 255) :
    Calls Try.prog 34 #[.int .u8 c] w fun e w' => e = .returned (.bool (spB c)) ∧ w' = w := by
  by_cases a : c = 32
  · subst a
    go_enter Try.func34, Try.ntmps34
    go_wp2
    go_ret
    exact ⟨rfl, rfl⟩
  · have a' : (c == 32) = false := by simpa using a
    by_cases b : 9 ≤ c
    · go_enter Try.func34, Try.ntmps34
      go_wp2
      go_ret
      exact ⟨ret_bool (by simp [spB, a, b]), rfl⟩
    · go_enter Try.func34, Try.ntmps34
      go_wp2
      go_ret
      exact ⟨ret_bool (by simp [spB, a]; omega), rfl⟩

set_option maxHeartbeats 400000 in
theorem digit_any (c : Int) (w : World) (h0 : 0 ≤ c) (h1 : c ≤ 255) :
    Calls Try.prog 29 #[.int .u8 c] w fun e w' => e = .returned (.bool (digB c)) ∧ w' = w := by
  by_cases a : 48 ≤ c
  · go_enter Try.func29, Try.ntmps29
    go_wp2
    go_ret
    exact ⟨ret_bool (by simp [digB, a]), rfl⟩
  · go_enter Try.func29, Try.ntmps29
    go_wp2
    go_ret
    exact ⟨ret_bool (by simp [digB]; omega), rfl⟩

set_option maxHeartbeats 400000 in
theorem white_any (c : Int) (w : World) (h0 : 0 ≤ c) (h1 : c ≤ 255) :
    Calls Try.prog 27 #[.int .u8 c] w fun e w' => e = .returned (.bool (spB c)) ∧ w' = w := by
  go_enter Try.func27, Try.ntmps27
  go_wp2
  all_goals
    go_ret
    refine ⟨ret_bool ?_, rfl⟩
  all_goals
    rw [Bool.eq_iff_iff]
    simp [spB]
    omega

/-- Two digits' value. -/
def two (a b : Int) : Int := (a - 48) * 10 + (b - 48)

theorem Grown_drewN {w w' : World} (h : Grown w w') (n : Nat) : Grown w (w'.drewN n) := h

set_option maxHeartbeats 400000 in
theorem twoDigits_any (x : ByteArray) (w : World) (hs : 2 ≤ x.size) (h0 : digB (bt x 0) = true) (h1 : digB (bt x 1) = true) :
    Calls Try.prog 33 #[.string x] w fun e w' => e = .returned (.int .i64 (two (bt x 0) (bt x 1))) ∧ ∃ n, w' = w.drewN n := by
  have hb := get_bt x
  simp [digB] at h0 h1
  obtain ⟨a0, a1⟩ := h0
  obtain ⟨b0, b1⟩ := h1
  have hs0 : (0 : Int) < x.size := by omega
  have hs1 : (1 : Int) < x.size := by omega
  go_enter Try.func33, Try.ntmps33
  go_wp2
  go_quiet (fail)
  go_wp2
  go_ret
  exact ⟨rfl, _, rfl⟩

set_option maxHeartbeats 400000 in
theorem pair_any (x : ByteArray) (i : Nat) (w : World) (hm : x.size ≤ maxLen) (hs : i + 1 < x.size) (h0 : digB (bt x i) = true) (h1 : digB (bt x (i + 1)) = true) :
    Calls Try.prog 25 #[.string x, .int .i64 i] w fun e w' => e = .returned (.int .i64 (two (bt x i) (bt x (i + 1)))) ∧ ∃ n, w' = w.drewN n := by
  have hb := get_bt x
  unfold maxLen at hm
  simp [digB] at h0 h1
  obtain ⟨a0, a1⟩ := h0
  obtain ⟨b0, b1⟩ := h1
  have hs0 : (i : Int) < x.size := by omega
  have hs1 : (i : Int) + 1 < x.size := by omega
  go_enter Try.func25, Try.ntmps25
  go_wp2
  go_quiet (fail)
  go_wp2
  go_ret
  exact ⟨rfl, _, rfl⟩

/-- The digits' run at i is d long. -/
def IsRun (B : Nat → Int) (i d : Nat) : Prop := (∀ j, j < d → digB (B (i + j)) = true) ∧ digB (B (i + d)) = false

def RunOf (x : ByteArray) (i d : Nat) : Prop := IsRun (bt x) i d ∧ i + d ≤ x.size
def DigAll (B : Nat → Int) (i n : Nat) (b : Bool) : Prop := b = true ↔ ∀ j, j < n → digB (B (i + j)) = true

theorem digB_zero : digB 0 = false := rfl

theorem bt_of_dig {x : ByteArray} {k : Nat} (h : digB (bt x k) = true) : k < x.size := by
  rcases Nat.lt_or_ge k x.size with h2 | h2
  · exact h2
  · rw [bt_end x h2] at h; cases h

set_option maxHeartbeats 400000 in
theorem run_any (x : ByteArray) (i : Nat) (w : World) (hm : x.size ≤ maxLen) (hi : i ≤ x.size) :
    Calls Try.prog 17 #[.string x, .int .i64 i] w fun e w' => RetI (RunOf x i) e ∧ w' = w := by
  have hb := get_bt x
  unfold maxLen at hm
  go_enter Try.func17, Try.ntmps17
  go_wp2_with fail
  go_loop [5] (fun n => ∃ d : Nat, n = .int .i64 d ∧ i + d ≤ x.size ∧ ∀ j, j < d → digB (bt x (i + j)) = true) (fun n => x.size - i - (intOf n).toNat)
  case atStart => exact ⟨0, rfl, by omega, by omega⟩
  case round =>
    obtain ⟨d, rfl, hd, hall⟩ := hrel
    have HA : Hid (∀ j, j < d → digB (bt x (i + j)) = true) := hall
    clear hall
    by_cases hlt : i + d < x.size
    · have q0 := bt_nonneg x (i + d)
      have q1 := bt_le x (i + d)
      cases hdg : digB (bt x (i + d))
      · have HR : Hid (IsRun (bt x) i d) := ⟨HA.out, hdg⟩
        go_wp2_with (go_at_call 29; refine (digit_any _ _ (by omega) (by omega)).mono ?_; rintro e w' ⟨rfl, rfl⟩)
        go_ret
        exact ⟨⟨d, rfl, HR.out, hd⟩, rfl⟩
      · have HN : Hid (∀ j, j < d + 1 → digB (bt x (i + j)) = true) := by
          intro j hj
          by_cases e : j < d
          · exact HA.out j e
          · obtain rfl : d = j := by omega
            exact hdg
        go_wp2_with (go_at_call 29; refine (digit_any _ _ (by omega) (by omega)).mono ?_; rintro e w' ⟨rfl, rfl⟩)
        go_round
        case rel => exact ⟨d + 1, by go_num, by omega, HN.out⟩
        case measure => simp [intOf]; omega
    · have HR : Hid (IsRun (bt x) i d) := ⟨HA.out, by rw [bt_end x (by omega)]; rfl⟩
      go_wp2_with fail
      go_ret
      exact ⟨⟨d, rfl, HR.out, hd⟩, rfl⟩

set_option maxHeartbeats 400000 in
theorem digitsAt_any (x : ByteArray) (i n : Nat) (w : World) (hm : x.size ≤ maxLen) (hi : i + n ≤ x.size) :
    Calls Try.prog 26 #[.string x, .int .i64 i, .int .i64 n] w fun e w' => RetB (DigAll (bt x) i n) e ∧ w' = w := by
  have hb := get_bt x
  unfold maxLen at hm
  go_enter Try.func26, Try.ntmps26
  go_wp2_with fail
  go_loop [7] (fun v => ∃ d : Nat, v = .int .i64 d ∧ d ≤ n ∧ ∀ j, j < d → digB (bt x (i + j)) = true) (fun v => n - (intOf v).toNat)
  case atStart => exact ⟨0, rfl, by omega, by omega⟩
  case round =>
    obtain ⟨d, rfl, hd, hall⟩ := hrel
    have HA : Hid (∀ j, j < d → digB (bt x (i + j)) = true) := hall
    clear hall
    by_cases hlt : d < n
    · have q0 := bt_nonneg x (i + d)
      have q1 := bt_le x (i + d)
      have hlt2 : i + d < x.size := by omega
      cases hdg : digB (bt x (i + d))
      · have HN : Hid (¬ ∀ j, j < n → digB (bt x (i + j)) = true) := by
          intro h
          rw [h d hlt] at hdg
          cases hdg
        go_wp2_with (go_at_call 29; refine (digit_any _ _ (by omega) (by omega)).mono ?_; rintro e w' ⟨rfl, rfl⟩)
        go_ret
        exact ⟨⟨false, rfl, by constructor; intro h; cases h; intro h; exact (HN.out h).elim⟩, rfl⟩
      · have HN : Hid (∀ j, j < d + 1 → digB (bt x (i + j)) = true) := by
          intro j hj
          by_cases e : j < d
          · exact HA.out j e
          · obtain rfl : d = j := by omega
            exact hdg
        go_wp2_with (go_at_call 29; refine (digit_any _ _ (by omega) (by omega)).mono ?_; rintro e w' ⟨rfl, rfl⟩)
        go_round
        case rel => exact ⟨d + 1, by go_num, by omega, HN.out⟩
        case measure => simp [intOf]; omega
    · obtain rfl : n = d := by omega
      go_wp2_with fail
      go_ret
      exact ⟨⟨true, rfl, by constructor; intro _; exact HA.out; intro _; rfl⟩, rfl⟩

theorem bt_ext (x : ByteArray) (a i : Nat) : bt (x.extract a x.size) i = bt x (a + i) := by
  rw [← bl_getD, bl_suffix, List.getD_eq_getElem?_getD, List.getElem?_drop, ← List.getD_eq_getElem?_getD, bl_getD]

/-- A string slot's length, for a loop's measure. -/
def strLen : Value → Nat | .string t => t.size | _ => 0

/-- What trimLeft leaves is empty just where all is white. -/
def Wh (B : Nat → Int) (n p : Nat) : Prop := ∀ j, p ≤ j → j < n → spB (B j) = true

def TrimOf (x t : ByteArray) : Prop := t.size = 0 ↔ Wh (bt x) x.size 0

set_option maxHeartbeats 400000 in
theorem trimLeft_any (x : ByteArray) (w : World) (hm : x.size ≤ maxLen) :
    Calls Try.prog 36 #[.string x] w fun e w' => RetS (TrimOf x) e ∧ w' = w := by
  unfold maxLen at hm
  go_enter Try.func36, Try.ntmps36
  go_wp2_with fail
  go_loop [0] (fun v => ∃ (t : ByteArray) (k : Nat), v = .string t ∧ k + t.size = x.size ∧ (∀ i, bt t i = bt x (k + i)) ∧ ∀ j, j < k → spB (bt x j) = true) (fun v => strLen v)
  case atStart => exact ⟨x, 0, rfl, by omega, by intro i; rw [Nat.zero_add], by omega⟩
  case round =>
    obtain ⟨t, k, rfl, hk, hbt, hall⟩ := hrel
    have HB : Hid (∀ i, bt t i = bt x (k + i)) := hbt
    have HA : Hid (∀ j, j < k → spB (bt x j) = true) := hall
    clear hbt hall
    have hb := get_bt t
    by_cases hz : t.size = 0
    · have hem : t.toList.isEmpty = true := by rw [isEmpty_dec]; simpa using hz
      have HF : Hid (TrimOf x t) := by
        constructor
        · intro _ j _ h2
          exact HA.out j (by omega)
        · intro _; exact hz
      clear hz
      go_wp2_with fail
      go_ret
      exact ⟨⟨t, rfl, HF.out⟩, rfl⟩
    · have hem : t.toList.isEmpty = false := by rw [isEmpty_dec]; simpa using hz
      have hpos : 0 < t.size := by omega
      have q0 := bt_nonneg t 0
      have q1 := bt_le t 0
      cases hsp : spB (bt t 0)
      · have HF : Hid (TrimOf x t) := by
          constructor
          · intro h; exact (hz h).elim
          · intro h
            have h2 := h k (by omega) (by omega)
            have h3 := HB.out 0
            rw [Nat.add_zero] at h3
            rw [h3, h2] at hsp
            cases hsp
        clear hz
        go_wp2_with (go_at_call 34; refine (isSpace_any _ _ (by omega) (by omega)).mono ?_; rintro e w' ⟨rfl, rfl⟩)
        go_ret
        exact ⟨⟨t, rfl, HF.out⟩, rfl⟩
      · have HN : Hid (∀ j, j < k + 1 → spB (bt x j) = true) := by
          intro j hj
          by_cases e : j < k
          · exact HA.out j e
          · obtain rfl : k = j := by omega
            have h3 := HB.out 0
            rw [Nat.add_zero] at h3
            rw [← h3]; exact hsp
        have HM : Hid (∀ i, bt (t.extract 1 t.size) i = bt x (k + 1 + i)) := by
          intro i
          rw [bt_ext, HB.out, Nat.add_assoc]
        clear hz
        go_wp2_with (go_at_call 34; refine (isSpace_any _ _ (by omega) (by omega)).mono ?_; rintro e w' ⟨rfl, rfl⟩)
        go_round
        case rel => exact ⟨t.extract 1 t.size, k + 1, rfl, by simp; omega, HM.out, HN.out⟩
        case measure => simp [strLen]; omega

end Go.Proofs.Qxb6603772a.Zn
