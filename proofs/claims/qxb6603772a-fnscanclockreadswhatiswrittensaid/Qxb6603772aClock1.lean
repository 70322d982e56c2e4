/- The walks of what scanClock calls. -/
import Derived.Test.Qxb6603772aZone1
import Derived.WalkSpells
import Derived.WalkLawsBesides
namespace Go.Proofs.Qxb6603772a.Ck
set_option linter.unusedVariables false
set_option linter.unusedSimpArgs false
open Go.ChangeShapes Go.WideShapes Go.ChangeAt Go.RowKit Go.PlainAid
open Go.Proofs.Qxb6603772a.Bs Go.Proofs.Qxb6603772a.Wk Go.Proofs.Qxb6603772a.Zn

/-- scanNumeral's value behind k digits. -/
def nv (B : Nat → Int) : Nat → Int
  | 0 => 0
  | k + 1 => if 1000000001 < nv B k * 10 + (B k - 48) then 1000000001 else nv B k * 10 + (B k - 48)

theorem nv_bd (B : Nat → Int) (k : Nat) (h : ∀ j, j < k → digB (B j) = true) : 0 ≤ nv B k ∧ nv B k ≤ 1000000001 := by
  induction k with
  | zero => simp [nv]
  | succ k ih =>
    have h1 := ih (fun j hj => h j (by omega))
    have h2 := h k (by omega)
    simp [digB] at h2
    rw [nv]
    split <;> omega

set_option maxHeartbeats 1000000 in
theorem scanNumeral_any (s : ByteArray) (most i : Nat) (w : World) (hm : s.size ≤ maxLen) (hmm : most ≤ 1000) (hi : i ≤ s.size) (hd : ∀ j, j < i → digB (bt s j) = true)
    (hle : most = 0 ∨ i ≤ most) (hend : (most ≠ 0 ∧ i = most) ∨ digB (bt s i) = false) :
    Calls Try.prog 37 #[.string s, .int .i64 most] w fun e w' => e = .returned (.tuple #[.int .i64 (nv (bt s) i), .string (s.extract i s.size), .bool (decide (0 < i))]) ∧ ∃ n, w' = w.drewN n := by
  have hb := get_bt s
  unfold maxLen at hm
  have HD : Hid (∀ j, j < i → digB (bt s j) = true) := hd
  have HL : Hid (most = 0 ∨ i ≤ most) := hle
  have HE : Hid ((most ≠ 0 ∧ i = most) ∨ digB (bt s i) = false) := hend
  clear hd hle hend
  go_enter Try.func37, Try.ntmps37
  go_wp2_with fail
  go_loop [7, 8] (fun v c => ∃ k : Nat, k ≤ i ∧ c = .int .i64 k ∧ v = .int .i64 (nv (bt s) k)) (fun _ c => i - (intOf c).toNat)
  case atStart => exact ⟨0, by omega, rfl, rfl⟩
  case round =>
    obtain ⟨k, hk, rfl, rfl⟩ := hrel
    have nb := nv_bd (bt s) k (fun j hj => HD.out j (by omega))
    have nb0 := nb.1
    have nb1 := nb.2
    clear nb
    by_cases hlt : k < i
    · have hks : k < s.size := by omega
      have hdk := HD.out k hlt
      have hdk2 := hdk
      simp [digB] at hdk2
      have q0 := hdk2.1
      have q1 := hdk2.2
      clear hdk2
      have HN : Hid (nv (bt s) (k + 1) = if 1000000001 < nv (bt s) k * 10 + (bt s k - 48) then 1000000001 else nv (bt s) k * 10 + (bt s k - 48)) := rfl
      generalize hv : nv (bt s) k = v at *
      clear hv
      by_cases hm0 : most = 0
      · have hm0' : ((most : Int) == 0) = true := by simp [hm0]
        clear hm0
        go_wp2_with (go_at_call 32; refine (isDigit_any _ _ (by omega) (by omega)).mono ?_; rintro e w' ⟨rfl, rfl⟩)
        go_round
        case rel => exact ⟨k + 1, by omega, by go_num, by rw [HN.out]⟩
        case measure => simp [intOf]; omega
      · have hm0' : ((most : Int) == 0) = false := by simpa using hm0
        have hkm : k < most := by rcases HL.out with h | h <;> omega
        clear hm0
        go_wp2_with (go_at_call 32; refine (isDigit_any _ _ (by omega) (by omega)).mono ?_; rintro e w' ⟨rfl, rfl⟩)
        go_round
        case rel => exact ⟨k + 1, by omega, by go_num, by rw [HN.out]⟩
        case measure => simp [intOf]; omega
    · obtain rfl : i = k := by omega
      generalize hv : nv (bt s) i = v at *
      have HV : Hid (nv (bt s) i = v) := hv
      clear hv
      have i0 : (i : Int) ≤ s.size := by omega
      have q0 := bt_nonneg s i
      have q1 := bt_le s i
      by_cases hs : i < s.size
      · cases hdg : digB (bt s i)
        · go_wp2_with (go_at_call 32; refine (isDigit_any _ _ (by omega) (by omega)).mono ?_; rintro e w' ⟨rfl, rfl⟩)
          go_quiet (fail)
          go_wp2_with fail
          go_ret3
          exact ⟨by rw [HV.out]; simp, _, rfl⟩
        · have hq : most ≠ 0 ∧ i = most := by
            rcases HE.out with h | h
            · exact h
            · rw [hdg] at h; cases h
          have hm0' : ((most : Int) == 0) = false := by simpa using hq.1
          have hq2 : most ≤ i := by omega
          clear hq
          go_wp2_with (go_at_call 32; refine (isDigit_any _ _ (by omega) (by omega)).mono ?_; rintro e w' ⟨rfl, rfl⟩)
          go_quiet (fail)
          go_wp2_with fail
          go_ret3
          exact ⟨by rw [HV.out]; simp, _, rfl⟩
      · go_wp2_with fail
        go_quiet (fail)
        go_wp2_with fail
        go_ret3
        exact ⟨by rw [HV.out]; simp, _, rfl⟩

theorem take1 (s : ByteArray) (c : UInt8) (hs : 0 < s.size) (h : bt s 0 = (c.toNat : Int)) : ((s.extract 0 1).toList == [c]) = true := by
  rw [ByteArray.toList_eq, ByteArray.data_extract, Array.toList_extract, List.extract_eq_take_drop]
  have h0 := (get_bt s) 0 hs
  rw [h] at h0
  have e : s.data.toList = s.data[0] :: s.data.toList.drop 1 := by
    have := List.drop_eq_getElem_cons (l := s.data.toList) (i := 0) (by simpa using hs)
    simpa using this
  have e2 : s.data[0] = c := UInt8.toNat_inj.1 (by
    have h1 : (s.data[0].toNat : Int) = c.toNat := h0
    omega)
  rw [List.drop_zero, e, e2]
  simp

set_option maxHeartbeats 400000 in
theorem hasPrefix_yes (s : ByteArray) (c : UInt8) (w : World) (hm : s.size ≤ maxLen) (hs : 0 < s.size) (h : bt s 0 = (c.toNat : Int)) :
    Calls Try.prog 42 #[.string s, .string ⟨#[c]⟩] w fun e w' => e = .returned (.bool true) ∧ w' = w := by
  unfold maxLen at hm
  have ht := take1 s c hs h
  clear h
  go_enter Try.func42, Try.ntmps42
  go_wp2_with fail
  go_ret
  exact ⟨rfl, rfl⟩

set_option maxHeartbeats 400000 in
theorem cutPrefix_yes (s : ByteArray) (c : UInt8) (w : World) (hm : s.size ≤ maxLen) (hs : 0 < s.size) (h : bt s 0 = (c.toNat : Int)) :
    Calls Try.prog 43 #[.string s, .string ⟨#[c]⟩] w fun e w' => e = .returned (.tuple #[.string (s.extract 1 s.size), .bool true]) ∧ w' = w := by
  have HH : Hid (bt s 0 = (c.toNat : Int)) := h
  clear h
  go_enter Try.func43, Try.ntmps43
  go_wp2_with (go_at_call 42; refine (hasPrefix_yes _ _ _ hm hs HH.out).mono ?_; rintro e w' ⟨rfl, rfl⟩)
  go_ret2
  exact ⟨rfl, rfl⟩

set_option maxHeartbeats 400000 in
theorem sHasPrefix_yes (s : ByteArray) (c : UInt8) (w : World) (hm : s.size ≤ maxLen) (hs : 0 < s.size) (h : bt s 0 = (c.toNat : Int)) :
    Calls Try.prog 38 #[.string s, .string ⟨#[c]⟩] w fun e w' => e = .returned (.bool true) ∧ w' = w := by
  have HH : Hid (bt s 0 = (c.toNat : Int)) := h
  clear h
  go_enter Try.func38, Try.ntmps38
  go_wp2_with (go_at_call 42; refine (hasPrefix_yes _ _ _ hm hs HH.out).mono ?_; rintro e w' ⟨rfl, rfl⟩)
  go_ret
  exact ⟨rfl, rfl⟩

set_option maxHeartbeats 400000 in
theorem sCutPrefix_yes (s : ByteArray) (c : UInt8) (w : World) (hm : s.size ≤ maxLen) (hs : 0 < s.size) (h : bt s 0 = (c.toNat : Int)) :
    Calls Try.prog 39 #[.string s, .string ⟨#[c]⟩] w fun e w' => e = .returned (.tuple #[.string (s.extract 1 s.size), .bool true]) ∧ w' = w := by
  have HH : Hid (bt s 0 = (c.toNat : Int)) := h
  clear h
  go_enter Try.func39, Try.ntmps39
  go_wp2_with (go_at_call 43; refine (cutPrefix_yes _ _ _ hm hs HH.out).mono ?_; rintro e w' ⟨rfl, rfl⟩)
  go_ret2
  exact ⟨rfl, rfl⟩

/-- The value of six digits. -/
def six (a b c d e f : Int) : Int := ((((((a - 48) * 10 + (b - 48)) * 10 + (c - 48)) * 10 + (d - 48)) * 10 + (e - 48)) * 10 + (f - 48))

set_option maxHeartbeats 400000 in
theorem fraction_any (s : ByteArray) (w : World) (hm : s.size ≤ maxLen) (hs : 6 ≤ s.size) (h : ∀ j, j < 6 → digB (bt s j) = true) :
    Calls Try.prog 40 #[.string s] w fun e w' => e = .returned (.int .i64 (six (bt s 0) (bt s 1) (bt s 2) (bt s 3) (bt s 4) (bt s 5))) ∧ w' = w := by
  have hb := get_bt s
  unfold maxLen at hm
  have e0 := h 0 (by omega)
  have e1 := h 1 (by omega)
  have e2 := h 2 (by omega)
  have e3 := h 3 (by omega)
  have e4 := h 4 (by omega)
  have e5 := h 5 (by omega)
  clear h
  simp [digB] at e0 e1 e2 e3 e4 e5
  obtain ⟨a0, b0⟩ := e0
  obtain ⟨a1, b1⟩ := e1
  obtain ⟨a2, b2⟩ := e2
  obtain ⟨a3, b3⟩ := e3
  obtain ⟨a4, b4⟩ := e4
  obtain ⟨a5, b5⟩ := e5
  go_enter Try.func40, Try.ntmps40
  go_wp2_with fail
  go_rounds 7
  go_ret
  exact ⟨ret_int (by unfold six; omega), rfl⟩

/-- Six digits. -/
def sx (n : Int) : List Int := [48 + n / 10 / 10 / 10 / 10 / 10 % 10, 48 + n / 10 / 10 / 10 / 10 % 10, 48 + n / 10 / 10 / 10 % 10, 48 + n / 10 / 10 % 10, 48 + n / 10 % 10, 48 + n % 10]

set_option maxHeartbeats 400000 in
theorem six_any (n : Int) (w : World) (h0 : 0 ≤ n) (h1 : n ≤ 999999) :
    Calls Try.prog 15 #[.int .i64 n] w fun e w' => e = .returned (.string (strOfNums (sx n))) ∧ Grown w w' := by
  have hcv := run_convert_bytes_arg (w.alloc (.cells #[.int .u8 (48 + n / 10 / 10 / 10 / 10 / 10 % 10), .int .u8 (48 + n / 10 / 10 / 10 / 10 % 10), .int .u8 (48 + n / 10 / 10 / 10 % 10), .int .u8 (48 + n / 10 / 10 % 10), .int .u8 (48 + n / 10 % 10), .int .u8 (48 + n % 10)] 46)) (P := Try.prog) 36 5 Try.underlying36 Try.underlying5 w.heap.size 0 6 6 (sx n) rfl
    (fun i hi => by
      rcases (show i = 0 ∨ i = 1 ∨ i = 2 ∨ i = 3 ∨ i = 4 ∨ i = 5 by omega) with rfl | rfl | rfl | rfl | rfl | rfl
      all_goals simp [sx]) 9 Try.underlying9
  go_enter Try.func15, Try.ntmps15
  go_wp2_with fail
  go_rounds 7
  go_ret
  exact ⟨rfl, (Grown.refl _).alloc _ _⟩

end Go.Proofs.Qxb6603772a.Ck
