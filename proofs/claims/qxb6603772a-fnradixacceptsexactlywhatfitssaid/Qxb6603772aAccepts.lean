/- The walk of FnRadixAcceptsExactlyWhatFits. -/
import Derived.Test.Qxb6603772aRadix
import Derived.Test.Qxb6603772aDigits
import Derived.Test.Qxb6603772aLaw2
import Derived.Test.Qxb6603772aGrow
import Derived.Test.Qxb6603772aText
import Derived.Deep.RegionWith
import Derived.Deep.DeepCutAuto
namespace Go.Proofs.Qxb6603772a.Wk
set_option linter.unusedVariables false
set_option linter.unusedSimpArgs false
open Go.ChangeShapes Go.WideShapes Go.ChangeAt Go.RowKit Go.PlainAid
open Go.Proofs.Qxb6603772a.Pl Go.Proofs.Qxb6603772a.Bs

theorem pre_size (b up : Bool) : (pre b up).size = 2 := rfl
/-- The second byte of what stands ahead. -/
def pch (bin up : Bool) : Int := if bin = true then (if up = true then 66 else 98) else (if up = true then 88 else 120)
theorem bl_pre (b up : Bool) : bl (pre b up) = [48, pch b up] := by cases b <;> cases up <;> rfl
theorem nums_size (b v : Int) (up : Bool) : (strOfNums (digS b v up)).size ≤ 64 := by rw [strOfNums_size]; exact digS_length b v up

theorem add1 (a b : ByteArray) (ha : a.size ≤ 1000) (hb : b.size ≤ 1000) (wx : World) : (Op.stringOp .add a b).run Try.prog wx = .ok (.string (a ++ b)) wx :=
  run_string_add_sum wx a b (by omega)

theorem one_cell (w : World) (c : Int) : (w.alloc (.cells #[.int .u8 c] 40)).cell? ⟨w.heap.size, 0, none⟩ = some (.int .u8 c) := by simp

theorem conv1 (H : Nat) (c : Int) (wx : World) (h : wx.cell? ⟨H, 0, none⟩ = some (.int .u8 c)) :
    (convert 36 9 (.slice (some ⟨H, 0, none⟩) 1 1)).run Try.prog wx = .ok (.string (strOfNums [c])) wx :=
  run_convert_bytes_arg wx (P := Try.prog) 36 5 Try.underlying36 Try.underlying5 H 0 1 1 [c] rfl
    (fun i hi => by have : i = 0 := by omega
                    subst this; simpa using h) 9 Try.underlying9

set_option maxHeartbeats 1000000 in
theorem acc_hex (v d : Int) (up : Bool) (w : World) (h0 : 0 ≤ v) (h1 : v ≤ 18446744073709551615) (d0 : 0 ≤ d) (d1 : d < 16) :
    Calls Try.prog 8 #[.int .u64 v, .int .u8 d, .bool false, .bool up] w fun e w' => e = .returned (.bool true) ∧ Grown w w' := by
  go_enter Try.func8, Try.ntmps8
  go_wp2_with (go_at_call 23; refine (digitChar_any _ _ _ (by omega) (by omega)).mono ?_; rintro e w' ⟨rfl, hw⟩; rw [hw])
  have hc := one_cell w (dch d up)
  have hg0 : Grown w (w.alloc (.cells #[.int .u8 (dch d up)] 40)) := (Grown.refl _).alloc _ _
  have hH : w.heap.size < (w.alloc (.cells #[.int .u8 (dch d up)] 40)).heap.size := by simp
  generalize hW : w.alloc (.cells #[.int .u8 (dch d up)] 40) = W at *
  clear hW
  generalize w.heap.size = H at *
  go_cut [11] (fun t wc => t = .string (pre false up ++ strOfNums (digS 16 v up) ++ strOfNums [dch d up]) ∧ Grown w wc)
  case first =>
    have hcv := conv1 H (dch d up)
    have ha1 := add1 (pre false up) (strOfNums (digS 16 v up)) (by rw [pre_size]; omega) (by have := nums_size 16 v up; omega)
    have ha2 := add1 (pre false up ++ strOfNums (digS 16 v up)) (strOfNums [dch d up]) (by rw [ByteArray.size_append, pre_size]; have := nums_size 16 v up; omega) (by rw [strOfNums_size]; simp)
    go_region_with (first
      | (go_at_call 22; refine (pfx_any _ _ _).mono ?_; rintro e w1 ⟨rfl, hw1⟩; rw [hw1])
      | (go_at_call 21; refine (digits_hex _ _ _ h0 h1).mono ?_; rintro e w1 ⟨rfl, hg1⟩; have hc1 := (Gw.cell hg1 ⟨H, 0, none⟩ hH).trans hc))
    all_goals
      go_wp2_with fail
      go_meet
    all_goals
      case rel => exact ⟨rfl, Gw.trans hg0 (by first | exact hg1 | (refine Gw.trans ?_ hg1; exact (Grown.refl _)))⟩
  case rest =>
    obtain ⟨rfl, hg⟩ := hcut
    have hT : (pre false up ++ strOfNums (digS 16 v up) ++ strOfNums [dch d up]).size ≤ maxLen := by
      have h1 := nums_size 16 v up
      have h2 : (strOfNums [dch d up]).size = 1 := strOfNums_size _
      rw [ByteArray.size_append, ByteArray.size_append, pre_size, h2]
      unfold maxLen
      omega
    have HP : Hid (radixP (bl (pre false up ++ strOfNums (digS 16 v up) ++ strOfNums [dch d up])) = fin (if v < L16 then some (v * 16 + d) else none)) := by
      show _ = _
      rw [bl_append, bl_append, bl_nums _ (digS_bytes 16 v (by omega) (by omega) up), bl_nums [dch d up] (by intro c hc; simp at hc; subst hc; have := hexD_dch d up d0 (by omega); omega), bl_pre, List.append_assoc]
      rw [show ([48, pch false up] : List Int) ++ (digS 16 v up ++ [dch d up]) = 48 :: pch false up :: (digS 16 v up ++ [dch d up]) from rfl, radixP_text]
      rw [← rx_more 16 L16 v d (by omega) (by omega) (by decide) (by decide) up h0 h1 d0 d1]
      cases up <;> rfl
    go_wp2_with fail
    refine (ZZradix_any _ _ hT).mono ?_
    rintro e w1 ⟨rfl, hw1⟩
    rw [hw1, HP.out]
    by_cases hv : v < L16
    · rw [if_pos hv]
      simp only [fin]
      have hle : v ≤ (18446744073709551615 - d) / 16 := by unfold L16 at hv; omega
      have hlt : v < 1152921504606846976 := hv
      clear hv
      go_wp2_with fail
      go_ret
      exact ⟨rfl, hg⟩
    · rw [if_neg hv]
      simp only [fin]
      have hle : ¬ v ≤ (18446744073709551615 - d) / 16 := by unfold L16 at hv; omega
      clear hv
      go_wp2_with fail
      go_ret
      exact ⟨rfl, hg⟩
set_option maxHeartbeats 1000000 in
theorem acc_bin (v d : Int) (up : Bool) (w : World) (h0 : 0 ≤ v) (h1 : v ≤ 18446744073709551615) (d0 : 0 ≤ d) (d1 : d < 2) :
    Calls Try.prog 8 #[.int .u64 v, .int .u8 d, .bool true, .bool up] w fun e w' => e = .returned (.bool true) ∧ Grown w w' := by
  go_enter Try.func8, Try.ntmps8
  go_wp2_with (go_at_call 23; refine (digitChar_any _ _ _ (by omega) (by omega)).mono ?_; rintro e w' ⟨rfl, hw⟩; rw [hw])
  have hc := one_cell w (dch d up)
  have hg0 : Grown w (w.alloc (.cells #[.int .u8 (dch d up)] 40)) := (Grown.refl _).alloc _ _
  have hH : w.heap.size < (w.alloc (.cells #[.int .u8 (dch d up)] 40)).heap.size := by simp
  generalize hW : w.alloc (.cells #[.int .u8 (dch d up)] 40) = W at *
  clear hW
  generalize w.heap.size = H at *
  go_cut [11] (fun t wc => t = .string (pre true up ++ strOfNums (digS 2 v up) ++ strOfNums [dch d up]) ∧ Grown w wc)
  case first =>
    have hcv := conv1 H (dch d up)
    have ha1 := add1 (pre true up) (strOfNums (digS 2 v up)) (by rw [pre_size]; omega) (by have := nums_size 2 v up; omega)
    have ha2 := add1 (pre true up ++ strOfNums (digS 2 v up)) (strOfNums [dch d up]) (by rw [ByteArray.size_append, pre_size]; have := nums_size 2 v up; omega) (by rw [strOfNums_size]; simp)
    go_region_with (first
      | (go_at_call 22; refine (pfx_any _ _ _).mono ?_; rintro e w1 ⟨rfl, hw1⟩; rw [hw1])
      | (go_at_call 21; refine (digits_bin _ _ _ h0 h1).mono ?_; rintro e w1 ⟨rfl, hg1⟩; have hc1 := (Gw.cell hg1 ⟨H, 0, none⟩ hH).trans hc))
    all_goals
      go_wp2_with fail
      go_meet
    all_goals
      case rel => exact ⟨rfl, Gw.trans hg0 (by first | exact hg1 | (refine Gw.trans ?_ hg1; exact (Grown.refl _)))⟩
  case rest =>
    obtain ⟨rfl, hg⟩ := hcut
    have hT : (pre true up ++ strOfNums (digS 2 v up) ++ strOfNums [dch d up]).size ≤ maxLen := by
      have h1 := nums_size 2 v up
      have h2 : (strOfNums [dch d up]).size = 1 := strOfNums_size _
      rw [ByteArray.size_append, ByteArray.size_append, pre_size, h2]
      unfold maxLen
      omega
    have HP : Hid (radixP (bl (pre true up ++ strOfNums (digS 2 v up) ++ strOfNums [dch d up])) = fin (if v < L2 then some (v * 2 + d) else none)) := by
      show _ = _
      rw [bl_append, bl_append, bl_nums _ (digS_bytes 2 v (by omega) (by omega) up), bl_nums [dch d up] (by intro c hc; simp at hc; subst hc; have := hexD_dch d up d0 (by omega); omega), bl_pre, List.append_assoc]
      rw [show ([48, pch true up] : List Int) ++ (digS 2 v up ++ [dch d up]) = 48 :: pch true up :: (digS 2 v up ++ [dch d up]) from rfl, radixP_text]
      rw [← rx_more 2 L2 v d (by omega) (by omega) (by decide) (by decide) up h0 h1 d0 d1]
      cases up <;> rfl
    go_wp2_with fail
    refine (ZZradix_any _ _ hT).mono ?_
    rintro e w1 ⟨rfl, hw1⟩
    rw [hw1, HP.out]
    by_cases hv : v < L2
    · rw [if_pos hv]
      simp only [fin]
      have hle : v ≤ (18446744073709551615 - d) / 2 := by unfold L2 at hv; omega
      have hlt : v < 9223372036854775808 := hv
      clear hv
      go_wp2_with fail
      go_ret
      exact ⟨rfl, hg⟩
    · rw [if_neg hv]
      simp only [fin]
      have hle : ¬ v ≤ (18446744073709551615 - d) / 2 := by unfold L2 at hv; omega
      clear hv
      go_wp2_with fail
      go_ret
      exact ⟨rfl, hg⟩

/-- Digit d is none of the base: the law waves it through. -/
theorem acc_wave (v d : Int) (bin up : Bool) (w : World) (h : (bin = false ∧ 16 ≤ d) ∨ (bin = true ∧ 2 ≤ d)) (h2 : d ≤ 255) :
    Calls Try.prog 8 #[.int .u64 v, .int .u8 d, .bool bin, .bool up] w fun e w' => e = .returned (.bool true) ∧ Grown w w' := by
  rcases h with ⟨rfl, h⟩ | ⟨rfl, h⟩
  all_goals
    go_enter Try.func8, Try.ntmps8
    go_wp2
    go_ret
    exact ⟨rfl, Grown.refl _⟩

theorem acc_any (v d : Int) (bin up : Bool) (w : World) (h0 : 0 ≤ v) (h1 : v ≤ 18446744073709551615) (d0 : 0 ≤ d) (d1 : d ≤ 255) :
    Calls Try.prog 8 #[.int .u64 v, .int .u8 d, .bool bin, .bool up] w fun e w' => e = .returned (.bool true) ∧ Grown w w' := by
  cases bin
  · by_cases h : d < 16
    · exact acc_hex v d up w h0 h1 d0 h
    · exact acc_wave v d false up w (.inl ⟨rfl, by omega⟩) d1
  · by_cases h : d < 2
    · exact acc_bin v d up w h0 h1 d0 h
    · exact acc_wave v d true up w (.inr ⟨rfl, by omega⟩) d1

end Go.Proofs.Qxb6603772a.Wk
