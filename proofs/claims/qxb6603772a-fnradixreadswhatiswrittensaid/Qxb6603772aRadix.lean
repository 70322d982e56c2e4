/- The walks of radix and of what it calls. -/
import Derived.Test.Qxb6603772aBase
namespace Go.Proofs.Qxb6603772a.Wk
set_option linter.unusedVariables false
set_option linter.unusedSimpArgs false
open Go.ChangeShapes Go.WideShapes Go.ChangeAt Go.RowKit Go.PlainAid
open Go.Proofs.Qxb6603772a.Pl Go.Proofs.Qxb6603772a.Bs

set_option maxHeartbeats 400000 in
theorem hexDigit_any (c : Int) (w : World) (h0 : 0 ≤ c) (h1 : c ≤ 255) :
    Calls Try.prog 41 #[.int .u8 c] w fun e w' => e = .returned (.int .u64 (hexD c)) ∧ w' = w := by
  have ho := or32 c h0 h1
  have HO : Hid (bits .or .u8 c 32 = if 32 ≤ c % 64 then c else c + 32) := ho
  clear ho
  go_enter Try.func41, Try.ntmps41
  by_cases hd : digB c = true
  · go_wp2_with (go_at_call 32; refine (isDigit_any _ _ (by omega) (by omega)).mono ?_; rintro e w' ⟨rfl, rfl⟩)
    go_ret
    simp [digB] at hd
    exact ⟨ret_int (by unfold hexD; rw [if_pos ⟨by omega, by omega⟩]; omega), rfl⟩
  · have hd' : digB c = false := by simpa using hd
    go_wp2_with (go_at_call 32; refine (isDigit_any _ _ (by omega) (by omega)).mono ?_; rintro e w' ⟨rfl, rfl⟩)
    all_goals
      go_ret
      simp only [digB, Bool.and_eq_true, decide_eq_true_eq] at hd
      have ho := HO.out
      generalize bits BinOp.or IntKind.u8 c 32 = x at *
      exact ⟨ret_int (by unfold hexD; split at ho <;> omega), rfl⟩

theorem radix_nope (s : ByteArray) (w : World) (hs : s.size ≤ maxLen) (h : s.size < 2 ∨ bt s 0 ≠ 48) :
    Calls Try.prog 30 #[.string s] w fun e w' => e = .returned (.tuple #[.int .u64 0, .bool false, .bool false]) ∧ w' = w := by
  have hb := get_bt s
  unfold maxLen at hs
  by_cases h2 : s.size < 2
  · go_enter Try.func30, Try.ntmps30
    go_wp2
    go_ret3
    exact ⟨rfl, rfl⟩
  · have h0 : (bt s 0 != 48) = true := by rw [bne_iff_ne]; omega
    go_enter Try.func30, Try.ntmps30
    go_wp2
    go_ret3
    exact ⟨rfl, rfl⟩




theorem or_step16 (v d : Int) (h0 : 0 ≤ v) (h1 : v < 1152921504606846976) (h2 : 0 ≤ d) (h3 : d < 16) :
    bits .or .u64 (v * 16) d = v * 16 + d := by
  obtain ⟨a, rfl⟩ := Int.eq_ofNat_of_zero_le h0
  obtain ⟨b, rfl⟩ := Int.eq_ofNat_of_zero_le h2
  have e := u64_or_nat (a * 16) b (by omega) (by omega)
  have e2 := Nat.two_pow_add_eq_or_of_lt (i := 4) (b := b) (by omega) a
  rw [Nat.mul_comm (2 ^ 4) a] at e2
  rw [← e2] at e
  simpa using e

theorem or_step2 (v d : Int) (h0 : 0 ≤ v) (h1 : v < 9223372036854775808) (h2 : 0 ≤ d) (h3 : d < 2) :
    bits .or .u64 (v * 2) d = v * 2 + d := by
  obtain ⟨a, rfl⟩ := Int.eq_ofNat_of_zero_le h0
  obtain ⟨b, rfl⟩ := Int.eq_ofNat_of_zero_le h2
  have e := u64_or_nat (a * 2) b (by omega) (by omega)
  have e2 := Nat.two_pow_add_eq_or_of_lt (i := 1) (b := b) (by omega) a
  rw [Nat.mul_comm (2 ^ 1) a] at e2
  rw [← e2] at e
  simpa using e

theorem radix_nope2 (s : ByteArray) (w : World) (hs : s.size ≤ maxLen) (h2 : 2 ≤ s.size) (h0 : bt s 0 = 48) (c1 : bt s 1 ≠ 120) (c2 : bt s 1 ≠ 88) (c3 : bt s 1 ≠ 98) (c4 : bt s 1 ≠ 66) :
    Calls Try.prog 30 #[.string s] w fun e w' => e = .returned (.tuple #[.int .u64 0, .bool false, .bool false]) ∧ w' = w := by
  have hb := get_bt s
  unfold maxLen at hs
  go_enter Try.func30, Try.ntmps30
  go_wp2
  go_ret3
  exact ⟨rfl, rfl⟩

theorem radix_empty (s : ByteArray) (w : World) (hs : s.size ≤ maxLen) (h2 : s.size = 2) (h0 : bt s 0 = 48) (c1 : bt s 1 = 120 ∨ bt s 1 = 88 ∨ bt s 1 = 98 ∨ bt s 1 = 66) :
    Calls Try.prog 30 #[.string s] w fun e w' => e = .returned (.tuple #[.int .u64 0, .bool true, .bool false]) ∧ w' = w := by
  have hb := get_bt s
  have he : (s.extract 2 2).toList.isEmpty = true := by rw [isEmpty_dec]; simp
  unfold maxLen at hs
  rcases c1 with c1 | c1 | c1 | c1
  all_goals
    go_enter Try.func30, Try.ntmps30
    go_wp2
    go_ret3
    exact ⟨rfl, rfl⟩

set_option maxHeartbeats 1000000 in
theorem radix_x (s : ByteArray) (w : World) (r : Int × Bool × Bool) (hs : s.size ≤ maxLen) (h2 : 2 < s.size) (h0 : bt s 0 = 48) (c1 : bt s 1 = 120)
    (hr : fin (rx 16 L16 false 0 ((bl s).drop 2)) = r) :
    Calls Try.prog 30 #[.string s] w fun e w' => e = .returned (.tuple #[.int .u64 r.1, .bool r.2.1, .bool r.2.2]) ∧ w' = w := by
  have hb := get_bt s
  have hsz : (s.extract 2 s.size).size = s.size - 2 := by simp
  have he : (s.extract 2 s.size).toList.isEmpty = false := by rw [isEmpty_dec, hsz]; simp; omega
  rw [← bl_suffix s 2] at hr
  have HR : Hid (fin (rx 16 L16 false 0 (bl (s.extract 2 s.size))) = r) := hr
  clear hr
  unfold maxLen at hs
  go_enter Try.func30, Try.ntmps30
  go_wp2_with (fail)
  generalize s.extract 2 s.size = t at *
  clear hb h0 c1
  have hb := get_bt t
  go_loop [2, 32] (fun n i => ∃ (k : Nat) (v : Int), k ≤ t.size ∧ i = .int .i64 k ∧ n = .int .u64 v ∧ 0 ≤ v ∧ v ≤ M64
      ∧ fin (rx 16 L16 (decide (0 < k) && decide (bt t (k - 1) ≠ 95)) v ((bl t).drop k)) = r
      ∧ (0 < k → bt t (k - 1) = 95 → k < t.size)) (fun _ i => t.size - (intOf i).toNat)
  case atStart =>
    exact ⟨0, 0, by omega, rfl, rfl, by omega, by decide, HR.out, by omega⟩
  case round =>
    clear HR
    obtain ⟨k, v, hk, rfl, rfl, hv0, hv1, hx, hl⟩ := hrel
    have HX : Hid (fin (rx 16 L16 (decide (0 < k) && decide (bt t (k - 1) ≠ 95)) v ((bl t).drop k)) = r) := hx
    have HL : Hid (0 < k → bt t (k - 1) = 95 → k < t.size) := hl
    clear hx hl
    by_cases hlt : k < t.size
    · have HD : Hid ((bl t).drop k = bt t k :: (bl t).drop (k + 1)) := bl_drop t k hlt
      have q0 := bt_nonneg t k
      have q1 := bt_le t k
      by_cases h95 : bt t k = 95
      · have h95' : (bt t k == 95) = true := by simpa using h95
        have H95 : Hid (bt t k = 95) := h95
        have hd : 16 ≤ hexD (bt t k) := by rw [h95]; decide
        clear h95
        by_cases hk0 : 0 < k
        · by_cases hkn : k + 1 < t.size
          · have HD2 : Hid ((bl t).drop (k + 1) = bt t (k + 1) :: (bl t).drop (k + 1 + 1)) := bl_drop t (k + 1) hkn
            have q2 := bt_nonneg t (k - 1)
            have q3 := bt_le t (k - 1)
            have q4 := bt_nonneg t (k + 1)
            have q5 := bt_le t (k + 1)
            by_cases hpr : bt t (k - 1) = 95
            · have hpr' : (bt t (k - 1) != 95) = false := by rw [hpr]; rfl
              have HF : Hid (r = (0, true, false)) := by
                have h := HX.out
                rw [HD.out, show (decide (0 < k) && decide (bt t (k - 1) ≠ 95)) = false from by simp [hpr], rx_us_no H95.out] at h
                exact h.symm
              clear hpr
              go_wp2_with (go_at_call 41; refine (hexDigit_any _ _ (by omega) (by omega)).mono ?_; rintro e w' ⟨rfl, rfl⟩)
              go_ret3
              rw [HF.out]
              exact ⟨rfl, rfl⟩
            · have hpr' : (bt t (k - 1) != 95) = true := by rw [bne_iff_ne]; exact hpr
              have HP : Hid ((decide (0 < k) && decide (bt t (k - 1) ≠ 95)) = true) := by show _ = _; simp [hpr, hk0]
              clear hpr
              by_cases hnx : bt t (k + 1) = 95
              · have hnx' : (bt t (k + 1) != 95) = false := by rw [hnx]; rfl
                have HF : Hid (r = (0, true, false)) := by
                  have h := HX.out
                  rw [HD.out, HD2.out, rx_us_us H95.out hnx] at h
                  exact h.symm
                clear hnx
                go_wp2_with (go_at_call 41; refine (hexDigit_any _ _ (by omega) (by omega)).mono ?_; rintro e w' ⟨rfl, rfl⟩)
                go_ret3
                rw [HF.out]
                exact ⟨rfl, rfl⟩
              · have hnx' : (bt t (k + 1) != 95) = true := by rw [bne_iff_ne]; exact hnx
                clear hnx
                have HG : Hid (fin (rx 16 L16 (decide (0 < k + 1) && decide (bt t (k + 1 - 1) ≠ 95)) v ((bl t).drop (k + 1))) = r) := by
                  have h := HX.out
                  rw [HD.out, HP.out, rx_us H95.out] at h
                  rw [show (decide (0 < k + 1) && decide (bt t (k + 1 - 1) ≠ 95)) = false from by simp [H95.out]]
                  exact h
                go_wp2_with (go_at_call 41; refine (hexDigit_any _ _ (by omega) (by omega)).mono ?_; rintro e w' ⟨rfl, rfl⟩)
                go_round
                case rel => exact ⟨k + 1, v, by omega, by go_num, rfl, hv0, hv1, HG.out, by omega⟩
                case measure => simp [intOf]; omega
          · have HF : Hid (r = (0, true, false)) := by
              have h := HX.out
              rw [HD.out, bl_drop_end t (k + 1) (by omega), rx_us_end H95.out] at h
              exact h.symm
            go_wp2_with (go_at_call 41; refine (hexDigit_any _ _ (by omega) (by omega)).mono ?_; rintro e w' ⟨rfl, rfl⟩)
            go_ret3
            rw [HF.out]
            exact ⟨rfl, rfl⟩
        · have HF : Hid (r = (0, true, false)) := by
            have h := HX.out
            rw [HD.out, show (decide (0 < k) && decide (bt t (k - 1) ≠ 95)) = false from by simp [hk0], rx_us_no H95.out] at h
            exact h.symm
          go_wp2_with (go_at_call 41; refine (hexDigit_any _ _ (by omega) (by omega)).mono ?_; rintro e w' ⟨rfl, rfl⟩)
          go_ret3
          rw [HF.out]
          exact ⟨rfl, rfl⟩
      · have h95' : (bt t k == 95) = false := by simpa using h95
        have H95 : Hid (bt t k ≠ 95) := h95
        clear h95
        have d0 := (hexD_bd (bt t k)).1
        have d1 := (hexD_bd (bt t k)).2
        by_cases hd : hexD (bt t k) < 16
        · by_cases hv : v < 1152921504606846976
          · have hv' : (v / 1152921504606846976 != 0) = false := by rw [show v / 1152921504606846976 = 0 from by omega]; rfl
            have HO : Hid (bits .or .u64 (v * 16) (hexD (bt t k)) = v * 16 + hexD (bt t k)) := or_step16 v _ hv0 hv d0 hd
            have HG : Hid (fin (rx 16 L16 (decide (0 < k + 1) && decide (bt t (k + 1 - 1) ≠ 95)) (v * 16 + hexD (bt t k)) ((bl t).drop (k + 1))) = r) := by
              have h := HX.out
              rw [HD.out, rx_dig H95.out hd (show v < L16 from hv)] at h
              rw [show (decide (0 < k + 1) && decide (bt t (k + 1 - 1) ≠ 95)) = true from by simp [H95.out]]
              exact h
            have HB : Hid (v * 16 + hexD (bt t k) ≤ M64) := by show _ ≤ M64; unfold M64; omega
            have HC : Hid (0 ≤ v * 16 + hexD (bt t k)) := by show _ ≤ _; omega
            have HE : Hid (0 < k + 1 → bt t (k + 1 - 1) = 95 → k + 1 < t.size) := fun _ h => (H95.out h).elim
            go_wp2_with (go_at_call 41; refine (hexDigit_any _ _ (by omega) (by omega)).mono ?_; rintro e w' ⟨rfl, rfl⟩)
            go_round
            case rel => exact ⟨k + 1, v * 16 + hexD (bt t k), by omega, by go_num, by rw [HO.out], HC.out, HB.out, HG.out, HE.out⟩
            case measure => simp [intOf]; omega
          · have hv' : (v / 1152921504606846976 != 0) = true := by rw [bne_iff_ne]; omega
            have HF : Hid (r = (0, true, false)) := by
              have h := HX.out
              rw [HD.out, rx_big H95.out (by unfold L16; omega)] at h
              exact h.symm
            go_wp2_with (go_at_call 41; refine (hexDigit_any _ _ (by omega) (by omega)).mono ?_; rintro e w' ⟨rfl, rfl⟩)
            go_ret3
            rw [HF.out]
            exact ⟨rfl, rfl⟩
        · have HF : Hid (r = (0, true, false)) := by
            have h := HX.out
            rw [HD.out, rx_bad H95.out (by omega)] at h
            exact h.symm
          go_wp2_with (go_at_call 41; refine (hexDigit_any _ _ (by omega) (by omega)).mono ?_; rintro e w' ⟨rfl, rfl⟩)
          go_ret3
          rw [HF.out]
          exact ⟨rfl, rfl⟩
    · have HF : Hid (r = (v, true, true)) := by
        have h := HX.out
        have hl := HL.out
        have h95 : bt t (k - 1) ≠ 95 := fun e => hlt (hl (by omega) e)
        rw [bl_drop_end t k (by omega), show (decide (0 < k) && decide (bt t (k - 1) ≠ 95)) = true from by simp [h95]; omega, rx_end] at h
        exact h.symm
      go_wp2_with (fail)
      go_ret3
      rw [HF.out]
      exact ⟨rfl, rfl⟩

set_option maxHeartbeats 1000000 in
theorem radix_X (s : ByteArray) (w : World) (r : Int × Bool × Bool) (hs : s.size ≤ maxLen) (h2 : 2 < s.size) (h0 : bt s 0 = 48) (c1 : bt s 1 = 88)
    (hr : fin (rx 16 L16 false 0 ((bl s).drop 2)) = r) :
    Calls Try.prog 30 #[.string s] w fun e w' => e = .returned (.tuple #[.int .u64 r.1, .bool r.2.1, .bool r.2.2]) ∧ w' = w := by
  have hb := get_bt s
  have hsz : (s.extract 2 s.size).size = s.size - 2 := by simp
  have he : (s.extract 2 s.size).toList.isEmpty = false := by rw [isEmpty_dec, hsz]; simp; omega
  rw [← bl_suffix s 2] at hr
  have HR : Hid (fin (rx 16 L16 false 0 (bl (s.extract 2 s.size))) = r) := hr
  clear hr
  unfold maxLen at hs
  go_enter Try.func30, Try.ntmps30
  go_wp2_with (fail)
  generalize s.extract 2 s.size = t at *
  clear hb h0 c1
  have hb := get_bt t
  go_loop [2, 32] (fun n i => ∃ (k : Nat) (v : Int), k ≤ t.size ∧ i = .int .i64 k ∧ n = .int .u64 v ∧ 0 ≤ v ∧ v ≤ M64
      ∧ fin (rx 16 L16 (decide (0 < k) && decide (bt t (k - 1) ≠ 95)) v ((bl t).drop k)) = r
      ∧ (0 < k → bt t (k - 1) = 95 → k < t.size)) (fun _ i => t.size - (intOf i).toNat)
  case atStart =>
    exact ⟨0, 0, by omega, rfl, rfl, by omega, by decide, HR.out, by omega⟩
  case round =>
    clear HR
    obtain ⟨k, v, hk, rfl, rfl, hv0, hv1, hx, hl⟩ := hrel
    have HX : Hid (fin (rx 16 L16 (decide (0 < k) && decide (bt t (k - 1) ≠ 95)) v ((bl t).drop k)) = r) := hx
    have HL : Hid (0 < k → bt t (k - 1) = 95 → k < t.size) := hl
    clear hx hl
    by_cases hlt : k < t.size
    · have HD : Hid ((bl t).drop k = bt t k :: (bl t).drop (k + 1)) := bl_drop t k hlt
      have q0 := bt_nonneg t k
      have q1 := bt_le t k
      by_cases h95 : bt t k = 95
      · have h95' : (bt t k == 95) = true := by simpa using h95
        have H95 : Hid (bt t k = 95) := h95
        have hd : 16 ≤ hexD (bt t k) := by rw [h95]; decide
        clear h95
        by_cases hk0 : 0 < k
        · by_cases hkn : k + 1 < t.size
          · have HD2 : Hid ((bl t).drop (k + 1) = bt t (k + 1) :: (bl t).drop (k + 1 + 1)) := bl_drop t (k + 1) hkn
            have q2 := bt_nonneg t (k - 1)
            have q3 := bt_le t (k - 1)
            have q4 := bt_nonneg t (k + 1)
            have q5 := bt_le t (k + 1)
            by_cases hpr : bt t (k - 1) = 95
            · have hpr' : (bt t (k - 1) != 95) = false := by rw [hpr]; rfl
              have HF : Hid (r = (0, true, false)) := by
                have h := HX.out
                rw [HD.out, show (decide (0 < k) && decide (bt t (k - 1) ≠ 95)) = false from by simp [hpr], rx_us_no H95.out] at h
                exact h.symm
              clear hpr
              go_wp2_with (go_at_call 41; refine (hexDigit_any _ _ (by omega) (by omega)).mono ?_; rintro e w' ⟨rfl, rfl⟩)
              go_ret3
              rw [HF.out]
              exact ⟨rfl, rfl⟩
            · have hpr' : (bt t (k - 1) != 95) = true := by rw [bne_iff_ne]; exact hpr
              have HP : Hid ((decide (0 < k) && decide (bt t (k - 1) ≠ 95)) = true) := by show _ = _; simp [hpr, hk0]
              clear hpr
              by_cases hnx : bt t (k + 1) = 95
              · have hnx' : (bt t (k + 1) != 95) = false := by rw [hnx]; rfl
                have HF : Hid (r = (0, true, false)) := by
                  have h := HX.out
                  rw [HD.out, HD2.out, rx_us_us H95.out hnx] at h
                  exact h.symm
                clear hnx
                go_wp2_with (go_at_call 41; refine (hexDigit_any _ _ (by omega) (by omega)).mono ?_; rintro e w' ⟨rfl, rfl⟩)
                go_ret3
                rw [HF.out]
                exact ⟨rfl, rfl⟩
              · have hnx' : (bt t (k + 1) != 95) = true := by rw [bne_iff_ne]; exact hnx
                clear hnx
                have HG : Hid (fin (rx 16 L16 (decide (0 < k + 1) && decide (bt t (k + 1 - 1) ≠ 95)) v ((bl t).drop (k + 1))) = r) := by
                  have h := HX.out
                  rw [HD.out, HP.out, rx_us H95.out] at h
                  rw [show (decide (0 < k + 1) && decide (bt t (k + 1 - 1) ≠ 95)) = false from by simp [H95.out]]
                  exact h
                go_wp2_with (go_at_call 41; refine (hexDigit_any _ _ (by omega) (by omega)).mono ?_; rintro e w' ⟨rfl, rfl⟩)
                go_round
                case rel => exact ⟨k + 1, v, by omega, by go_num, rfl, hv0, hv1, HG.out, by omega⟩
                case measure => simp [intOf]; omega
          · have HF : Hid (r = (0, true, false)) := by
              have h := HX.out
              rw [HD.out, bl_drop_end t (k + 1) (by omega), rx_us_end H95.out] at h
              exact h.symm
            go_wp2_with (go_at_call 41; refine (hexDigit_any _ _ (by omega) (by omega)).mono ?_; rintro e w' ⟨rfl, rfl⟩)
            go_ret3
            rw [HF.out]
            exact ⟨rfl, rfl⟩
        · have HF : Hid (r = (0, true, false)) := by
            have h := HX.out
            rw [HD.out, show (decide (0 < k) && decide (bt t (k - 1) ≠ 95)) = false from by simp [hk0], rx_us_no H95.out] at h
            exact h.symm
          go_wp2_with (go_at_call 41; refine (hexDigit_any _ _ (by omega) (by omega)).mono ?_; rintro e w' ⟨rfl, rfl⟩)
          go_ret3
          rw [HF.out]
          exact ⟨rfl, rfl⟩
      · have h95' : (bt t k == 95) = false := by simpa using h95
        have H95 : Hid (bt t k ≠ 95) := h95
        clear h95
        have d0 := (hexD_bd (bt t k)).1
        have d1 := (hexD_bd (bt t k)).2
        by_cases hd : hexD (bt t k) < 16
        · by_cases hv : v < 1152921504606846976
          · have hv' : (v / 1152921504606846976 != 0) = false := by rw [show v / 1152921504606846976 = 0 from by omega]; rfl
            have HO : Hid (bits .or .u64 (v * 16) (hexD (bt t k)) = v * 16 + hexD (bt t k)) := or_step16 v _ hv0 hv d0 hd
            have HG : Hid (fin (rx 16 L16 (decide (0 < k + 1) && decide (bt t (k + 1 - 1) ≠ 95)) (v * 16 + hexD (bt t k)) ((bl t).drop (k + 1))) = r) := by
              have h := HX.out
              rw [HD.out, rx_dig H95.out hd (show v < L16 from hv)] at h
              rw [show (decide (0 < k + 1) && decide (bt t (k + 1 - 1) ≠ 95)) = true from by simp [H95.out]]
              exact h
            have HB : Hid (v * 16 + hexD (bt t k) ≤ M64) := by show _ ≤ M64; unfold M64; omega
            have HC : Hid (0 ≤ v * 16 + hexD (bt t k)) := by show _ ≤ _; omega
            have HE : Hid (0 < k + 1 → bt t (k + 1 - 1) = 95 → k + 1 < t.size) := fun _ h => (H95.out h).elim
            go_wp2_with (go_at_call 41; refine (hexDigit_any _ _ (by omega) (by omega)).mono ?_; rintro e w' ⟨rfl, rfl⟩)
            go_round
            case rel => exact ⟨k + 1, v * 16 + hexD (bt t k), by omega, by go_num, by rw [HO.out], HC.out, HB.out, HG.out, HE.out⟩
            case measure => simp [intOf]; omega
          · have hv' : (v / 1152921504606846976 != 0) = true := by rw [bne_iff_ne]; omega
            have HF : Hid (r = (0, true, false)) := by
              have h := HX.out
              rw [HD.out, rx_big H95.out (by unfold L16; omega)] at h
              exact h.symm
            go_wp2_with (go_at_call 41; refine (hexDigit_any _ _ (by omega) (by omega)).mono ?_; rintro e w' ⟨rfl, rfl⟩)
            go_ret3
            rw [HF.out]
            exact ⟨rfl, rfl⟩
        · have HF : Hid (r = (0, true, false)) := by
            have h := HX.out
            rw [HD.out, rx_bad H95.out (by omega)] at h
            exact h.symm
          go_wp2_with (go_at_call 41; refine (hexDigit_any _ _ (by omega) (by omega)).mono ?_; rintro e w' ⟨rfl, rfl⟩)
          go_ret3
          rw [HF.out]
          exact ⟨rfl, rfl⟩
    · have HF : Hid (r = (v, true, true)) := by
        have h := HX.out
        have hl := HL.out
        have h95 : bt t (k - 1) ≠ 95 := fun e => hlt (hl (by omega) e)
        rw [bl_drop_end t k (by omega), show (decide (0 < k) && decide (bt t (k - 1) ≠ 95)) = true from by simp [h95]; omega, rx_end] at h
        exact h.symm
      go_wp2_with (fail)
      go_ret3
      rw [HF.out]
      exact ⟨rfl, rfl⟩

set_option maxHeartbeats 1000000 in
theorem radix_b (s : ByteArray) (w : World) (r : Int × Bool × Bool) (hs : s.size ≤ maxLen) (h2 : 2 < s.size) (h0 : bt s 0 = 48) (c1 : bt s 1 = 98)
    (hr : fin (rx 2 L2 false 0 ((bl s).drop 2)) = r) :
    Calls Try.prog 30 #[.string s] w fun e w' => e = .returned (.tuple #[.int .u64 r.1, .bool r.2.1, .bool r.2.2]) ∧ w' = w := by
  have hb := get_bt s
  have hsz : (s.extract 2 s.size).size = s.size - 2 := by simp
  have he : (s.extract 2 s.size).toList.isEmpty = false := by rw [isEmpty_dec, hsz]; simp; omega
  rw [← bl_suffix s 2] at hr
  have HR : Hid (fin (rx 2 L2 false 0 (bl (s.extract 2 s.size))) = r) := hr
  clear hr
  unfold maxLen at hs
  go_enter Try.func30, Try.ntmps30
  go_wp2_with (fail)
  generalize s.extract 2 s.size = t at *
  clear hb h0 c1
  have hb := get_bt t
  go_loop [2, 32] (fun n i => ∃ (k : Nat) (v : Int), k ≤ t.size ∧ i = .int .i64 k ∧ n = .int .u64 v ∧ 0 ≤ v ∧ v ≤ M64
      ∧ fin (rx 2 L2 (decide (0 < k) && decide (bt t (k - 1) ≠ 95)) v ((bl t).drop k)) = r
      ∧ (0 < k → bt t (k - 1) = 95 → k < t.size)) (fun _ i => t.size - (intOf i).toNat)
  case atStart =>
    exact ⟨0, 0, by omega, rfl, rfl, by omega, by decide, HR.out, by omega⟩
  case round =>
    clear HR
    obtain ⟨k, v, hk, rfl, rfl, hv0, hv1, hx, hl⟩ := hrel
    have HX : Hid (fin (rx 2 L2 (decide (0 < k) && decide (bt t (k - 1) ≠ 95)) v ((bl t).drop k)) = r) := hx
    have HL : Hid (0 < k → bt t (k - 1) = 95 → k < t.size) := hl
    clear hx hl
    by_cases hlt : k < t.size
    · have HD : Hid ((bl t).drop k = bt t k :: (bl t).drop (k + 1)) := bl_drop t k hlt
      have q0 := bt_nonneg t k
      have q1 := bt_le t k
      by_cases h95 : bt t k = 95
      · have h95' : (bt t k == 95) = true := by simpa using h95
        have H95 : Hid (bt t k = 95) := h95
        have hd : 2 ≤ hexD (bt t k) := by rw [h95]; decide
        clear h95
        by_cases hk0 : 0 < k
        · by_cases hkn : k + 1 < t.size
          · have HD2 : Hid ((bl t).drop (k + 1) = bt t (k + 1) :: (bl t).drop (k + 1 + 1)) := bl_drop t (k + 1) hkn
            have q2 := bt_nonneg t (k - 1)
            have q3 := bt_le t (k - 1)
            have q4 := bt_nonneg t (k + 1)
            have q5 := bt_le t (k + 1)
            by_cases hpr : bt t (k - 1) = 95
            · have hpr' : (bt t (k - 1) != 95) = false := by rw [hpr]; rfl
              have HF : Hid (r = (0, true, false)) := by
                have h := HX.out
                rw [HD.out, show (decide (0 < k) && decide (bt t (k - 1) ≠ 95)) = false from by simp [hpr], rx_us_no H95.out] at h
                exact h.symm
              clear hpr
              go_wp2_with (go_at_call 41; refine (hexDigit_any _ _ (by omega) (by omega)).mono ?_; rintro e w' ⟨rfl, rfl⟩)
              go_ret3
              rw [HF.out]
              exact ⟨rfl, rfl⟩
            · have hpr' : (bt t (k - 1) != 95) = true := by rw [bne_iff_ne]; exact hpr
              have HP : Hid ((decide (0 < k) && decide (bt t (k - 1) ≠ 95)) = true) := by show _ = _; simp [hpr, hk0]
              clear hpr
              by_cases hnx : bt t (k + 1) = 95
              · have hnx' : (bt t (k + 1) != 95) = false := by rw [hnx]; rfl
                have HF : Hid (r = (0, true, false)) := by
                  have h := HX.out
                  rw [HD.out, HD2.out, rx_us_us H95.out hnx] at h
                  exact h.symm
                clear hnx
                go_wp2_with (go_at_call 41; refine (hexDigit_any _ _ (by omega) (by omega)).mono ?_; rintro e w' ⟨rfl, rfl⟩)
                go_ret3
                rw [HF.out]
                exact ⟨rfl, rfl⟩
              · have hnx' : (bt t (k + 1) != 95) = true := by rw [bne_iff_ne]; exact hnx
                clear hnx
                have HG : Hid (fin (rx 2 L2 (decide (0 < k + 1) && decide (bt t (k + 1 - 1) ≠ 95)) v ((bl t).drop (k + 1))) = r) := by
                  have h := HX.out
                  rw [HD.out, HP.out, rx_us H95.out] at h
                  rw [show (decide (0 < k + 1) && decide (bt t (k + 1 - 1) ≠ 95)) = false from by simp [H95.out]]
                  exact h
                go_wp2_with (go_at_call 41; refine (hexDigit_any _ _ (by omega) (by omega)).mono ?_; rintro e w' ⟨rfl, rfl⟩)
                go_round
                case rel => exact ⟨k + 1, v, by omega, by go_num, rfl, hv0, hv1, HG.out, by omega⟩
                case measure => simp [intOf]; omega
          · have HF : Hid (r = (0, true, false)) := by
              have h := HX.out
              rw [HD.out, bl_drop_end t (k + 1) (by omega), rx_us_end H95.out] at h
              exact h.symm
            go_wp2_with (go_at_call 41; refine (hexDigit_any _ _ (by omega) (by omega)).mono ?_; rintro e w' ⟨rfl, rfl⟩)
            go_ret3
            rw [HF.out]
            exact ⟨rfl, rfl⟩
        · have HF : Hid (r = (0, true, false)) := by
            have h := HX.out
            rw [HD.out, show (decide (0 < k) && decide (bt t (k - 1) ≠ 95)) = false from by simp [hk0], rx_us_no H95.out] at h
            exact h.symm
          go_wp2_with (go_at_call 41; refine (hexDigit_any _ _ (by omega) (by omega)).mono ?_; rintro e w' ⟨rfl, rfl⟩)
          go_ret3
          rw [HF.out]
          exact ⟨rfl, rfl⟩
      · have h95' : (bt t k == 95) = false := by simpa using h95
        have H95 : Hid (bt t k ≠ 95) := h95
        clear h95
        have d0 := (hexD_bd (bt t k)).1
        have d1 := (hexD_bd (bt t k)).2
        by_cases hd : hexD (bt t k) < 2
        · by_cases hv : v < 9223372036854775808
          · have hv' : (v / 9223372036854775808 != 0) = false := by rw [show v / 9223372036854775808 = 0 from by omega]; rfl
            have HO : Hid (bits .or .u64 (v * 2) (hexD (bt t k)) = v * 2 + hexD (bt t k)) := or_step2 v _ hv0 hv d0 hd
            have HG : Hid (fin (rx 2 L2 (decide (0 < k + 1) && decide (bt t (k + 1 - 1) ≠ 95)) (v * 2 + hexD (bt t k)) ((bl t).drop (k + 1))) = r) := by
              have h := HX.out
              rw [HD.out, rx_dig H95.out hd (show v < L2 from hv)] at h
              rw [show (decide (0 < k + 1) && decide (bt t (k + 1 - 1) ≠ 95)) = true from by simp [H95.out]]
              exact h
            have HB : Hid (v * 2 + hexD (bt t k) ≤ M64) := by show _ ≤ M64; unfold M64; omega
            have HC : Hid (0 ≤ v * 2 + hexD (bt t k)) := by show _ ≤ _; omega
            have HE : Hid (0 < k + 1 → bt t (k + 1 - 1) = 95 → k + 1 < t.size) := fun _ h => (H95.out h).elim
            go_wp2_with (go_at_call 41; refine (hexDigit_any _ _ (by omega) (by omega)).mono ?_; rintro e w' ⟨rfl, rfl⟩)
            go_round
            case rel => exact ⟨k + 1, v * 2 + hexD (bt t k), by omega, by go_num, by rw [HO.out], HC.out, HB.out, HG.out, HE.out⟩
            case measure => simp [intOf]; omega
          · have hv' : (v / 9223372036854775808 != 0) = true := by rw [bne_iff_ne]; omega
            have HF : Hid (r = (0, true, false)) := by
              have h := HX.out
              rw [HD.out, rx_big H95.out (by unfold L2; omega)] at h
              exact h.symm
            go_wp2_with (go_at_call 41; refine (hexDigit_any _ _ (by omega) (by omega)).mono ?_; rintro e w' ⟨rfl, rfl⟩)
            go_ret3
            rw [HF.out]
            exact ⟨rfl, rfl⟩
        · have HF : Hid (r = (0, true, false)) := by
            have h := HX.out
            rw [HD.out, rx_bad H95.out (by omega)] at h
            exact h.symm
          go_wp2_with (go_at_call 41; refine (hexDigit_any _ _ (by omega) (by omega)).mono ?_; rintro e w' ⟨rfl, rfl⟩)
          go_ret3
          rw [HF.out]
          exact ⟨rfl, rfl⟩
    · have HF : Hid (r = (v, true, true)) := by
        have h := HX.out
        have hl := HL.out
        have h95 : bt t (k - 1) ≠ 95 := fun e => hlt (hl (by omega) e)
        rw [bl_drop_end t k (by omega), show (decide (0 < k) && decide (bt t (k - 1) ≠ 95)) = true from by simp [h95]; omega, rx_end] at h
        exact h.symm
      go_wp2_with (fail)
      go_ret3
      rw [HF.out]
      exact ⟨rfl, rfl⟩

set_option maxHeartbeats 1000000 in
theorem radix_B (s : ByteArray) (w : World) (r : Int × Bool × Bool) (hs : s.size ≤ maxLen) (h2 : 2 < s.size) (h0 : bt s 0 = 48) (c1 : bt s 1 = 66)
    (hr : fin (rx 2 L2 false 0 ((bl s).drop 2)) = r) :
    Calls Try.prog 30 #[.string s] w fun e w' => e = .returned (.tuple #[.int .u64 r.1, .bool r.2.1, .bool r.2.2]) ∧ w' = w := by
  have hb := get_bt s
  have hsz : (s.extract 2 s.size).size = s.size - 2 := by simp
  have he : (s.extract 2 s.size).toList.isEmpty = false := by rw [isEmpty_dec, hsz]; simp; omega
  rw [← bl_suffix s 2] at hr
  have HR : Hid (fin (rx 2 L2 false 0 (bl (s.extract 2 s.size))) = r) := hr
  clear hr
  unfold maxLen at hs
  go_enter Try.func30, Try.ntmps30
  go_wp2_with (fail)
  generalize s.extract 2 s.size = t at *
  clear hb h0 c1
  have hb := get_bt t
  go_loop [2, 32] (fun n i => ∃ (k : Nat) (v : Int), k ≤ t.size ∧ i = .int .i64 k ∧ n = .int .u64 v ∧ 0 ≤ v ∧ v ≤ M64
      ∧ fin (rx 2 L2 (decide (0 < k) && decide (bt t (k - 1) ≠ 95)) v ((bl t).drop k)) = r
      ∧ (0 < k → bt t (k - 1) = 95 → k < t.size)) (fun _ i => t.size - (intOf i).toNat)
  case atStart =>
    exact ⟨0, 0, by omega, rfl, rfl, by omega, by decide, HR.out, by omega⟩
  case round =>
    clear HR
    obtain ⟨k, v, hk, rfl, rfl, hv0, hv1, hx, hl⟩ := hrel
    have HX : Hid (fin (rx 2 L2 (decide (0 < k) && decide (bt t (k - 1) ≠ 95)) v ((bl t).drop k)) = r) := hx
    have HL : Hid (0 < k → bt t (k - 1) = 95 → k < t.size) := hl
    clear hx hl
    by_cases hlt : k < t.size
    · have HD : Hid ((bl t).drop k = bt t k :: (bl t).drop (k + 1)) := bl_drop t k hlt
      have q0 := bt_nonneg t k
      have q1 := bt_le t k
      by_cases h95 : bt t k = 95
      · have h95' : (bt t k == 95) = true := by simpa using h95
        have H95 : Hid (bt t k = 95) := h95
        have hd : 2 ≤ hexD (bt t k) := by rw [h95]; decide
        clear h95
        by_cases hk0 : 0 < k
        · by_cases hkn : k + 1 < t.size
          · have HD2 : Hid ((bl t).drop (k + 1) = bt t (k + 1) :: (bl t).drop (k + 1 + 1)) := bl_drop t (k + 1) hkn
            have q2 := bt_nonneg t (k - 1)
            have q3 := bt_le t (k - 1)
            have q4 := bt_nonneg t (k + 1)
            have q5 := bt_le t (k + 1)
            by_cases hpr : bt t (k - 1) = 95
            · have hpr' : (bt t (k - 1) != 95) = false := by rw [hpr]; rfl
              have HF : Hid (r = (0, true, false)) := by
                have h := HX.out
                rw [HD.out, show (decide (0 < k) && decide (bt t (k - 1) ≠ 95)) = false from by simp [hpr], rx_us_no H95.out] at h
                exact h.symm
              clear hpr
              go_wp2_with (go_at_call 41; refine (hexDigit_any _ _ (by omega) (by omega)).mono ?_; rintro e w' ⟨rfl, rfl⟩)
              go_ret3
              rw [HF.out]
              exact ⟨rfl, rfl⟩
            · have hpr' : (bt t (k - 1) != 95) = true := by rw [bne_iff_ne]; exact hpr
              have HP : Hid ((decide (0 < k) && decide (bt t (k - 1) ≠ 95)) = true) := by show _ = _; simp [hpr, hk0]
              clear hpr
              by_cases hnx : bt t (k + 1) = 95
              · have hnx' : (bt t (k + 1) != 95) = false := by rw [hnx]; rfl
                have HF : Hid (r = (0, true, false)) := by
                  have h := HX.out
                  rw [HD.out, HD2.out, rx_us_us H95.out hnx] at h
                  exact h.symm
                clear hnx
                go_wp2_with (go_at_call 41; refine (hexDigit_any _ _ (by omega) (by omega)).mono ?_; rintro e w' ⟨rfl, rfl⟩)
                go_ret3
                rw [HF.out]
                exact ⟨rfl, rfl⟩
              · have hnx' : (bt t (k + 1) != 95) = true := by rw [bne_iff_ne]; exact hnx
                clear hnx
                have HG : Hid (fin (rx 2 L2 (decide (0 < k + 1) && decide (bt t (k + 1 - 1) ≠ 95)) v ((bl t).drop (k + 1))) = r) := by
                  have h := HX.out
                  rw [HD.out, HP.out, rx_us H95.out] at h
                  rw [show (decide (0 < k + 1) && decide (bt t (k + 1 - 1) ≠ 95)) = false from by simp [H95.out]]
                  exact h
                go_wp2_with (go_at_call 41; refine (hexDigit_any _ _ (by omega) (by omega)).mono ?_; rintro e w' ⟨rfl, rfl⟩)
                go_round
                case rel => exact ⟨k + 1, v, by omega, by go_num, rfl, hv0, hv1, HG.out, by omega⟩
                case measure => simp [intOf]; omega
          · have HF : Hid (r = (0, true, false)) := by
              have h := HX.out
              rw [HD.out, bl_drop_end t (k + 1) (by omega), rx_us_end H95.out] at h
              exact h.symm
            go_wp2_with (go_at_call 41; refine (hexDigit_any _ _ (by omega) (by omega)).mono ?_; rintro e w' ⟨rfl, rfl⟩)
            go_ret3
            rw [HF.out]
            exact ⟨rfl, rfl⟩
        · have HF : Hid (r = (0, true, false)) := by
            have h := HX.out
            rw [HD.out, show (decide (0 < k) && decide (bt t (k - 1) ≠ 95)) = false from by simp [hk0], rx_us_no H95.out] at h
            exact h.symm
          go_wp2_with (go_at_call 41; refine (hexDigit_any _ _ (by omega) (by omega)).mono ?_; rintro e w' ⟨rfl, rfl⟩)
          go_ret3
          rw [HF.out]
          exact ⟨rfl, rfl⟩
      · have h95' : (bt t k == 95) = false := by simpa using h95
        have H95 : Hid (bt t k ≠ 95) := h95
        clear h95
        have d0 := (hexD_bd (bt t k)).1
        have d1 := (hexD_bd (bt t k)).2
        by_cases hd : hexD (bt t k) < 2
        · by_cases hv : v < 9223372036854775808
          · have hv' : (v / 9223372036854775808 != 0) = false := by rw [show v / 9223372036854775808 = 0 from by omega]; rfl
            have HO : Hid (bits .or .u64 (v * 2) (hexD (bt t k)) = v * 2 + hexD (bt t k)) := or_step2 v _ hv0 hv d0 hd
            have HG : Hid (fin (rx 2 L2 (decide (0 < k + 1) && decide (bt t (k + 1 - 1) ≠ 95)) (v * 2 + hexD (bt t k)) ((bl t).drop (k + 1))) = r) := by
              have h := HX.out
              rw [HD.out, rx_dig H95.out hd (show v < L2 from hv)] at h
              rw [show (decide (0 < k + 1) && decide (bt t (k + 1 - 1) ≠ 95)) = true from by simp [H95.out]]
              exact h
            have HB : Hid (v * 2 + hexD (bt t k) ≤ M64) := by show _ ≤ M64; unfold M64; omega
            have HC : Hid (0 ≤ v * 2 + hexD (bt t k)) := by show _ ≤ _; omega
            have HE : Hid (0 < k + 1 → bt t (k + 1 - 1) = 95 → k + 1 < t.size) := fun _ h => (H95.out h).elim
            go_wp2_with (go_at_call 41; refine (hexDigit_any _ _ (by omega) (by omega)).mono ?_; rintro e w' ⟨rfl, rfl⟩)
            go_round
            case rel => exact ⟨k + 1, v * 2 + hexD (bt t k), by omega, by go_num, by rw [HO.out], HC.out, HB.out, HG.out, HE.out⟩
            case measure => simp [intOf]; omega
          · have hv' : (v / 9223372036854775808 != 0) = true := by rw [bne_iff_ne]; omega
            have HF : Hid (r = (0, true, false)) := by
              have h := HX.out
              rw [HD.out, rx_big H95.out (by unfold L2; omega)] at h
              exact h.symm
            go_wp2_with (go_at_call 41; refine (hexDigit_any _ _ (by omega) (by omega)).mono ?_; rintro e w' ⟨rfl, rfl⟩)
            go_ret3
            rw [HF.out]
            exact ⟨rfl, rfl⟩
        · have HF : Hid (r = (0, true, false)) := by
            have h := HX.out
            rw [HD.out, rx_bad H95.out (by omega)] at h
            exact h.symm
          go_wp2_with (go_at_call 41; refine (hexDigit_any _ _ (by omega) (by omega)).mono ?_; rintro e w' ⟨rfl, rfl⟩)
          go_ret3
          rw [HF.out]
          exact ⟨rfl, rfl⟩
    · have HF : Hid (r = (v, true, true)) := by
        have h := HX.out
        have hl := HL.out
        have h95 : bt t (k - 1) ≠ 95 := fun e => hlt (hl (by omega) e)
        rw [bl_drop_end t k (by omega), show (decide (0 < k) && decide (bt t (k - 1) ≠ 95)) = true from by simp [h95]; omega, rx_end] at h
        exact h.symm
      go_wp2_with (fail)
      go_ret3
      rw [HF.out]
      exact ⟨rfl, rfl⟩


theorem radix_any (s : ByteArray) (w : World) (hs : s.size ≤ maxLen) :
    Calls Try.prog 30 #[.string s] w fun e w' => e = .returned (.tuple #[.int .u64 (radixP (bl s)).1, .bool (radixP (bl s)).2.1, .bool (radixP (bl s)).2.2]) ∧ w' = w := by
  unfold radixP
  rw [bl_length, bl_getD, bl_getD]
  by_cases h2 : s.size < 2
  · rw [if_pos h2]; exact radix_nope s w hs (.inl h2)
  rw [if_neg h2]
  by_cases h0 : bt s 0 = 48
  · rw [if_neg (by simp [h0])]
    by_cases hE : s.size = 2
    · rw [bl_drop_end s 2 (by omega)]
      by_cases c1 : bt s 1 = 120 ∨ bt s 1 = 88
      · rw [if_pos c1]; exact radix_empty s w hs hE h0 (by omega)
      · rw [if_neg c1]
        by_cases c2 : bt s 1 = 98 ∨ bt s 1 = 66
        · rw [if_pos c2]; exact radix_empty s w hs hE h0 (by omega)
        · rw [if_neg c2]; exact radix_nope2 s w hs (by omega) h0 (by omega) (by omega) (by omega) (by omega)
    · by_cases c1 : bt s 1 = 120 ∨ bt s 1 = 88
      · rw [if_pos c1]
        rcases c1 with c1 | c1
        · exact radix_x s w _ hs (by omega) h0 c1 rfl
        · exact radix_X s w _ hs (by omega) h0 c1 rfl
      · rw [if_neg c1]
        by_cases c2 : bt s 1 = 98 ∨ bt s 1 = 66
        · rw [if_pos c2]
          rcases c2 with c2 | c2
          · exact radix_b s w _ hs (by omega) h0 c2 rfl
          · exact radix_B s w _ hs (by omega) h0 c2 rfl
        · rw [if_neg c2]; exact radix_nope2 s w hs (by omega) h0 (by omega) (by omega) (by omega) (by omega)
  · rw [if_pos h0]; exact radix_nope s w hs (.inr h0)

theorem ZZradix_any (s : ByteArray) (w : World) (hs : s.size ≤ maxLen) :
    Calls Try.prog 19 #[.string s] w fun e w' => e = .returned (.tuple #[.int .u64 (radixP (bl s)).1, .bool (radixP (bl s)).2.1, .bool (radixP (bl s)).2.2]) ∧ w' = w := by
  go_enter Try.func19, Try.ntmps19
  go_wp2_with (go_at_call 30; refine (radix_any _ _ hs).mono ?_; rintro e w' ⟨rfl, rfl⟩)
  go_ret3
  exact ⟨rfl, rfl⟩

end Go.Proofs.Qxb6603772a.Wk
