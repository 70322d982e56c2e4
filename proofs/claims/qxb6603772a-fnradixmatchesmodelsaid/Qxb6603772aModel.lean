/- The walks of the model b1RadixModel, and the first law's. -/
import Derived.Test.Qxb6603772aRadix
namespace Go.Proofs.Qxb6603772a.Wk
set_option linter.unusedVariables false
set_option linter.unusedSimpArgs false
open Go.ChangeShapes Go.WideShapes Go.ChangeAt Go.RowKit Go.PlainAid
open Go.Proofs.Qxb6603772a.Pl Go.Proofs.Qxb6603772a.Bs


set_option maxHeartbeats 400000 in
theorem digitOf_hex (c : Int) (w : World) (h0 : 0 ≤ c) (h1 : c ≤ 255) :
    Calls Try.prog 31 #[.int .u8 c, .bool false] w fun e w' => e = .returned (.tuple #[.int .u64 (dvP 16 c), .bool (decide (hexD c < 16))]) ∧ w' = w := by
  go_enter Try.func31, Try.ntmps31
  go_wp2
  all_goals
    go_ret2
    refine ⟨ret_two ?_ ?_, rfl⟩
  all_goals (first | (unfold dvP; unfold hexD; omega) | (unfold hexD; simp; omega) )

set_option maxHeartbeats 400000 in
theorem digitOf_bin (c : Int) (w : World) (h0 : 0 ≤ c) (h1 : c ≤ 255) :
    Calls Try.prog 31 #[.int .u8 c, .bool true] w fun e w' => e = .returned (.tuple #[.int .u64 (dvP 2 c), .bool (decide (hexD c < 2))]) ∧ w' = w := by
  by_cases e0 : c = 48
  · subst e0
    go_enter Try.func31, Try.ntmps31
    go_wp2
    go_ret2
    exact ⟨rfl, rfl⟩
  by_cases e1 : c = 49
  · subst e1
    go_enter Try.func31, Try.ntmps31
    go_wp2
    go_ret2
    exact ⟨rfl, rfl⟩
  have hh : ¬ hexD c < 2 := by unfold hexD; omega
  go_enter Try.func31, Try.ntmps31
  go_wp2
  go_ret2
  exact ⟨ret_two (by unfold dvP; rw [if_neg (Int.not_lt.2 hh)]) (by simp [hh]), rfl⟩

theorem wrap_mul (v b d : Int) : IntKind.u64.wrap (IntKind.u64.wrap (v * b) + d) = (v * b + d) % 18446744073709551616 := by
  rw [IntKind.wrap_u64, IntKind.wrap_u64]
  omega

theorem model_nope (s : ByteArray) (w : World) (hs : s.size ≤ maxLen) (h : s.size < 2 ∨ bt s 0 ≠ 48) :
    Calls Try.prog 20 #[.string s] w fun e w' => e = .returned (.tuple #[.int .u64 0, .bool false, .bool false]) ∧ w' = w := by
  have hb := get_bt s
  unfold maxLen at hs
  by_cases h2 : s.size < 2
  · go_enter Try.func20, Try.ntmps20
    go_wp2
    go_ret3
    exact ⟨rfl, rfl⟩
  · have h0 : (bt s 0 != 48) = true := by rw [bne_iff_ne]; omega
    go_enter Try.func20, Try.ntmps20
    go_wp2
    go_ret3
    exact ⟨rfl, rfl⟩

theorem model_nope2 (s : ByteArray) (w : World) (hs : s.size ≤ maxLen) (h2 : 2 ≤ s.size) (h0 : bt s 0 = 48) (c1 : bt s 1 ≠ 120) (c2 : bt s 1 ≠ 88) (c3 : bt s 1 ≠ 98) (c4 : bt s 1 ≠ 66) :
    Calls Try.prog 20 #[.string s] w fun e w' => e = .returned (.tuple #[.int .u64 0, .bool false, .bool false]) ∧ w' = w := by
  have hb := get_bt s
  have d1 : (bt s 1 != 120) = true := by rw [bne_iff_ne]; exact c1
  have d2 : (bt s 1 != 88) = true := by rw [bne_iff_ne]; exact c2
  have d3 : (bt s 1 == 98) = false := by simpa using c3
  have d4 : (bt s 1 == 66) = false := by simpa using c4
  clear c1 c2 c3 c4
  unfold maxLen at hs
  go_enter Try.func20, Try.ntmps20
  go_wp2
  go_ret3
  exact ⟨rfl, rfl⟩

set_option maxHeartbeats 1000000 in
theorem model_x (s : ByteArray) (w : World) (r : Int × Bool × Bool) (hs : s.size ≤ maxLen) (h2 : 2 ≤ s.size) (h0 : bt s 0 = 48) (c1 : bt s 1 = 120)
    (hr : fm 16 16 ((bl s).drop 2) (m1 16 0 0 ((bl s).drop 2)) = r) :
    Calls Try.prog 20 #[.string s] w fun e w' => e = .returned (.tuple #[.int .u64 r.1, .bool r.2.1, .bool r.2.2]) ∧ w' = w := by
  have hb := get_bt s
  have hsz : (s.extract 2 s.size).size = s.size - 2 := by simp
  rw [← bl_suffix s 2] at hr
  have HR : Hid (fm 16 16 (bl (s.extract 2 s.size)) (m1 16 0 0 (bl (s.extract 2 s.size))) = r) := hr
  clear hr
  unfold maxLen at hs
  go_enter Try.func20, Try.ntmps20
  go_wp2_with (fail)
  generalize s.extract 2 s.size = t at *
  clear hb h0 c1
  have hb := get_bt t
  go_loop [7, 8, 9] (fun a b i => ∃ (k : Nat) (g sg : Int), k ≤ t.size ∧ i = .int .i64 k ∧ a = .int .i64 g ∧ b = .int .i64 sg ∧ 0 ≤ g ∧ g ≤ k ∧ 0 ≤ sg ∧ sg ≤ k
      ∧ fm 16 16 (bl t) (m1 16 g sg ((bl t).drop k)) = r) (fun _ _ i => t.size - (intOf i).toNat)
  case atStart =>
    exact ⟨0, 0, 0, by omega, rfl, rfl, rfl, by omega, by omega, by omega, by omega, HR.out⟩
  case round =>
    clear HR
    obtain ⟨k, g, sg, hk, rfl, rfl, rfl, hg0, hg1, hs0, hs1, hx⟩ := hrel
    have HX : Hid (fm 16 16 (bl t) (m1 16 g sg ((bl t).drop k)) = r) := hx
    clear hx
    by_cases hlt : k < t.size
    · have HD : Hid ((bl t).drop k = bt t k :: (bl t).drop (k + 1)) := bl_drop t k hlt
      have q0 := bt_nonneg t k
      have q1 := bt_le t k
      by_cases h95 : bt t k = 95
      · have h95' : (bt t k == 95) = true := by simpa using h95
        have H95 : Hid (bt t k = 95) := h95
        clear h95
        by_cases hg : g = 0
        · subst hg
          have HF : Hid (r = (0, true, false)) := by
            have h := HX.out
            rw [HD.out, m1_us_no H95.out] at h
            exact h.symm
          go_wp2_with (first | (go_at_call 31; refine (digitOf_hex _ _ (by omega) (by omega)).mono ?_; rintro e w' ⟨rfl, rfl⟩))
          go_ret3
          rw [HF.out]
          exact ⟨rfl, rfl⟩
        · have hg' : (g == 0) = false := by simpa using hg
          have HG : Hid (fm 16 16 (bl t) (m1 16 0 sg ((bl t).drop (k + 1))) = r) := by
            have h := HX.out
            rw [HD.out, m1_us H95.out (by omega)] at h
            exact h
          clear hg
          go_wp2_with (first | (go_at_call 31; refine (digitOf_hex _ _ (by omega) (by omega)).mono ?_; rintro e w' ⟨rfl, rfl⟩))
          go_round
          case rel => exact ⟨k + 1, 0, sg, by omega, by go_num, rfl, rfl, by omega, by omega, hs0, by omega, HG.out⟩
          case measure => simp [intOf]; omega
      · have h95' : (bt t k == 95) = false := by simpa using h95
        have H95 : Hid (bt t k ≠ 95) := h95
        clear h95
        have d0 := (hexD_bd (bt t k)).1
        have d1 := (hexD_bd (bt t k)).2
        by_cases hd : hexD (bt t k) < 16
        · have HE : Hid (dvP 16 (bt t k) = hexD (bt t k)) := by show _ = _; unfold dvP; rw [if_pos hd]
          by_cases hsg : 0 < sg
          · have HG : Hid (fm 16 16 (bl t) (m1 16 (g + 1) (sg + 1) ((bl t).drop (k + 1))) = r) := by
              have h := HX.out
              rw [HD.out, m1_sig H95.out hd (.inl hsg)] at h
              exact h
            go_wp2_with (first | (go_at_call 31; refine (digitOf_hex _ _ (by omega) (by omega)).mono ?_; rintro e w' ⟨rfl, rfl⟩))
            go_round
            case rel => exact ⟨k + 1, g + 1, sg + 1, by omega, by go_num, rfl, rfl, by omega, by omega, by omega, by omega, HG.out⟩
            case measure => simp [intOf]; omega
          · by_cases hz : hexD (bt t k) = 0
            · have hz' : (dvP 16 (bt t k) != 0) = false := by rw [HE.out, hz]; rfl
              have HG : Hid (fm 16 16 (bl t) (m1 16 (g + 1) sg ((bl t).drop (k + 1))) = r) := by
                have h := HX.out
                rw [HD.out, m1_zero H95.out hd (by omega)] at h
                exact h
              clear hz
              go_wp2_with (first | (go_at_call 31; refine (digitOf_hex _ _ (by omega) (by omega)).mono ?_; rintro e w' ⟨rfl, rfl⟩))
              go_round
              case rel => exact ⟨k + 1, g + 1, sg, by omega, by go_num, rfl, rfl, by omega, by omega, by omega, by omega, HG.out⟩
              case measure => simp [intOf]; omega
            · have hz' : (dvP 16 (bt t k) != 0) = true := by rw [HE.out, bne_iff_ne]; exact hz
              have HG : Hid (fm 16 16 (bl t) (m1 16 (g + 1) (sg + 1) ((bl t).drop (k + 1))) = r) := by
                have h := HX.out
                rw [HD.out, m1_sig H95.out hd (.inr hz)] at h
                exact h
              clear hz
              go_wp2_with (first | (go_at_call 31; refine (digitOf_hex _ _ (by omega) (by omega)).mono ?_; rintro e w' ⟨rfl, rfl⟩))
              go_round
              case rel => exact ⟨k + 1, g + 1, sg + 1, by omega, by go_num, rfl, rfl, by omega, by omega, by omega, by omega, HG.out⟩
              case measure => simp [intOf]; omega
        · have HF : Hid (r = (0, true, false)) := by
            have h := HX.out
            rw [HD.out, m1_bad H95.out (by omega)] at h
            exact h.symm
          have hdec : decide (hexD (bt t k) < 16) = false := by simpa using hd
          go_wp2_with (first | (go_at_call 31; refine (digitOf_hex _ _ (by omega) (by omega)).mono ?_; rintro e w' ⟨rfl, rfl⟩))
          go_ret3
          rw [HF.out]
          exact ⟨rfl, rfl⟩
    · have HF : Hid (fm 16 16 (bl t) (some (g, sg)) = r) := by
        have h := HX.out
        rw [bl_drop_end t k (by omega), m1] at h
        exact h
      clear HX
      by_cases hg : g = 0
      · subst hg
        have HF' : Hid (r = (0, true, false)) := by
          have h := HF.out
          rw [fm, if_pos rfl] at h
          exact h.symm
        go_wp2_with fail
        go_ret3
        rw [HF'.out]
        exact ⟨rfl, rfl⟩
      · have hg' : (g == 0) = false := by simpa using hg
        by_cases hm : 16 < sg
        · have HF' : Hid (r = (0, true, false)) := by
            have h := HF.out
            rw [fm, if_neg hg, if_pos hm] at h
            exact h.symm
          clear hg
          go_wp2_with fail
          go_ret3
          rw [HF'.out]
          exact ⟨rfl, rfl⟩
        · have HF' : Hid ((m2 16 0 (bl t), true, true) = r) := by
            have h := HF.out
            rw [fm, if_neg hg, if_neg hm] at h
            exact h
          clear hg HF
          go_wp2_with fail
          go_loop [14, 15] (fun a i => ∃ (k : Nat) (v : Int), k ≤ t.size ∧ i = .int .i64 k ∧ a = .int .u64 v ∧ 0 ≤ v ∧ v ≤ M64
              ∧ (m2 16 v ((bl t).drop k), true, true) = r) (fun _ i => t.size - (intOf i).toNat)
          case atStart =>
            exact ⟨0, 0, by omega, rfl, rfl, by omega, by decide, HF'.out⟩
          case round =>
            clear HF'
            obtain ⟨j, v, hj, rfl, rfl, hv0, hv1, hx⟩ := hrel
            have HX : Hid ((m2 16 v ((bl t).drop j), true, true) = r) := hx
            clear hx
            by_cases hlt : j < t.size
            · have HD : Hid ((bl t).drop j = bt t j :: (bl t).drop (j + 1)) := bl_drop t j hlt
              have q0 := bt_nonneg t j
              have q1 := bt_le t j
              by_cases h95 : bt t j = 95
              · have h95' : (bt t j == 95) = true := by simpa using h95
                have HG : Hid ((m2 16 v ((bl t).drop (j + 1)), true, true) = r) := by
                  have h := HX.out
                  rw [HD.out, m2_us h95] at h
                  exact h
                clear h95
                go_wp2_with (first | (go_at_call 31; refine (digitOf_hex _ _ (by omega) (by omega)).mono ?_; rintro e w' ⟨rfl, rfl⟩))
                go_round
                case rel => exact ⟨j + 1, v, by omega, by go_num, rfl, hv0, hv1, HG.out⟩
                case measure => simp [intOf]; omega
              · have h95' : (bt t j == 95) = false := by simpa using h95
                have HG : Hid ((m2 16 ((v * 16 + dvP 16 (bt t j)) % 18446744073709551616) ((bl t).drop (j + 1)), true, true) = r) := by
                  have h := HX.out
                  rw [HD.out, m2_dig h95] at h
                  exact h
                clear h95
                have d0 := (dvP_bd 16 (bt t j)).1
                have d1 := (dvP_bd 16 (bt t j)).2
                go_wp2_with (first | (go_at_call 31; refine (digitOf_hex _ _ (by omega) (by omega)).mono ?_; rintro e w' ⟨rfl, rfl⟩))
                go_round
                case rel => exact ⟨j + 1, (v * 16 + dvP 16 (bt t j)) % 18446744073709551616, by omega, by go_num, by rw [wrap_mul], by omega, by unfold M64; omega, HG.out⟩
                case measure => simp [intOf]; omega
            · have HF : Hid ((v, true, true) = r) := by
                have h := HX.out
                rw [bl_drop_end t j (by omega), m2] at h
                exact h
              go_wp2_with fail
              go_ret3
              rw [← HF.out]
              exact ⟨rfl, rfl⟩
set_option maxHeartbeats 1000000 in
theorem model_X (s : ByteArray) (w : World) (r : Int × Bool × Bool) (hs : s.size ≤ maxLen) (h2 : 2 ≤ s.size) (h0 : bt s 0 = 48) (c1 : bt s 1 = 88)
    (hr : fm 16 16 ((bl s).drop 2) (m1 16 0 0 ((bl s).drop 2)) = r) :
    Calls Try.prog 20 #[.string s] w fun e w' => e = .returned (.tuple #[.int .u64 r.1, .bool r.2.1, .bool r.2.2]) ∧ w' = w := by
  have hb := get_bt s
  have hsz : (s.extract 2 s.size).size = s.size - 2 := by simp
  rw [← bl_suffix s 2] at hr
  have HR : Hid (fm 16 16 (bl (s.extract 2 s.size)) (m1 16 0 0 (bl (s.extract 2 s.size))) = r) := hr
  clear hr
  unfold maxLen at hs
  go_enter Try.func20, Try.ntmps20
  go_wp2_with (fail)
  generalize s.extract 2 s.size = t at *
  clear hb h0 c1
  have hb := get_bt t
  go_loop [7, 8, 9] (fun a b i => ∃ (k : Nat) (g sg : Int), k ≤ t.size ∧ i = .int .i64 k ∧ a = .int .i64 g ∧ b = .int .i64 sg ∧ 0 ≤ g ∧ g ≤ k ∧ 0 ≤ sg ∧ sg ≤ k
      ∧ fm 16 16 (bl t) (m1 16 g sg ((bl t).drop k)) = r) (fun _ _ i => t.size - (intOf i).toNat)
  case atStart =>
    exact ⟨0, 0, 0, by omega, rfl, rfl, rfl, by omega, by omega, by omega, by omega, HR.out⟩
  case round =>
    clear HR
    obtain ⟨k, g, sg, hk, rfl, rfl, rfl, hg0, hg1, hs0, hs1, hx⟩ := hrel
    have HX : Hid (fm 16 16 (bl t) (m1 16 g sg ((bl t).drop k)) = r) := hx
    clear hx
    by_cases hlt : k < t.size
    · have HD : Hid ((bl t).drop k = bt t k :: (bl t).drop (k + 1)) := bl_drop t k hlt
      have q0 := bt_nonneg t k
      have q1 := bt_le t k
      by_cases h95 : bt t k = 95
      · have h95' : (bt t k == 95) = true := by simpa using h95
        have H95 : Hid (bt t k = 95) := h95
        clear h95
        by_cases hg : g = 0
        · subst hg
          have HF : Hid (r = (0, true, false)) := by
            have h := HX.out
            rw [HD.out, m1_us_no H95.out] at h
            exact h.symm
          go_wp2_with (first | (go_at_call 31; refine (digitOf_hex _ _ (by omega) (by omega)).mono ?_; rintro e w' ⟨rfl, rfl⟩))
          go_ret3
          rw [HF.out]
          exact ⟨rfl, rfl⟩
        · have hg' : (g == 0) = false := by simpa using hg
          have HG : Hid (fm 16 16 (bl t) (m1 16 0 sg ((bl t).drop (k + 1))) = r) := by
            have h := HX.out
            rw [HD.out, m1_us H95.out (by omega)] at h
            exact h
          clear hg
          go_wp2_with (first | (go_at_call 31; refine (digitOf_hex _ _ (by omega) (by omega)).mono ?_; rintro e w' ⟨rfl, rfl⟩))
          go_round
          case rel => exact ⟨k + 1, 0, sg, by omega, by go_num, rfl, rfl, by omega, by omega, hs0, by omega, HG.out⟩
          case measure => simp [intOf]; omega
      · have h95' : (bt t k == 95) = false := by simpa using h95
        have H95 : Hid (bt t k ≠ 95) := h95
        clear h95
        have d0 := (hexD_bd (bt t k)).1
        have d1 := (hexD_bd (bt t k)).2
        by_cases hd : hexD (bt t k) < 16
        · have HE : Hid (dvP 16 (bt t k) = hexD (bt t k)) := by show _ = _; unfold dvP; rw [if_pos hd]
          by_cases hsg : 0 < sg
          · have HG : Hid (fm 16 16 (bl t) (m1 16 (g + 1) (sg + 1) ((bl t).drop (k + 1))) = r) := by
              have h := HX.out
              rw [HD.out, m1_sig H95.out hd (.inl hsg)] at h
              exact h
            go_wp2_with (first | (go_at_call 31; refine (digitOf_hex _ _ (by omega) (by omega)).mono ?_; rintro e w' ⟨rfl, rfl⟩))
            go_round
            case rel => exact ⟨k + 1, g + 1, sg + 1, by omega, by go_num, rfl, rfl, by omega, by omega, by omega, by omega, HG.out⟩
            case measure => simp [intOf]; omega
          · by_cases hz : hexD (bt t k) = 0
            · have hz' : (dvP 16 (bt t k) != 0) = false := by rw [HE.out, hz]; rfl
              have HG : Hid (fm 16 16 (bl t) (m1 16 (g + 1) sg ((bl t).drop (k + 1))) = r) := by
                have h := HX.out
                rw [HD.out, m1_zero H95.out hd (by omega)] at h
                exact h
              clear hz
              go_wp2_with (first | (go_at_call 31; refine (digitOf_hex _ _ (by omega) (by omega)).mono ?_; rintro e w' ⟨rfl, rfl⟩))
              go_round
              case rel => exact ⟨k + 1, g + 1, sg, by omega, by go_num, rfl, rfl, by omega, by omega, by omega, by omega, HG.out⟩
              case measure => simp [intOf]; omega
            · have hz' : (dvP 16 (bt t k) != 0) = true := by rw [HE.out, bne_iff_ne]; exact hz
              have HG : Hid (fm 16 16 (bl t) (m1 16 (g + 1) (sg + 1) ((bl t).drop (k + 1))) = r) := by
                have h := HX.out
                rw [HD.out, m1_sig H95.out hd (.inr hz)] at h
                exact h
              clear hz
              go_wp2_with (first | (go_at_call 31; refine (digitOf_hex _ _ (by omega) (by omega)).mono ?_; rintro e w' ⟨rfl, rfl⟩))
              go_round
              case rel => exact ⟨k + 1, g + 1, sg + 1, by omega, by go_num, rfl, rfl, by omega, by omega, by omega, by omega, HG.out⟩
              case measure => simp [intOf]; omega
        · have HF : Hid (r = (0, true, false)) := by
            have h := HX.out
            rw [HD.out, m1_bad H95.out (by omega)] at h
            exact h.symm
          have hdec : decide (hexD (bt t k) < 16) = false := by simpa using hd
          go_wp2_with (first | (go_at_call 31; refine (digitOf_hex _ _ (by omega) (by omega)).mono ?_; rintro e w' ⟨rfl, rfl⟩))
          go_ret3
          rw [HF.out]
          exact ⟨rfl, rfl⟩
    · have HF : Hid (fm 16 16 (bl t) (some (g, sg)) = r) := by
        have h := HX.out
        rw [bl_drop_end t k (by omega), m1] at h
        exact h
      clear HX
      by_cases hg : g = 0
      · subst hg
        have HF' : Hid (r = (0, true, false)) := by
          have h := HF.out
          rw [fm, if_pos rfl] at h
          exact h.symm
        go_wp2_with fail
        go_ret3
        rw [HF'.out]
        exact ⟨rfl, rfl⟩
      · have hg' : (g == 0) = false := by simpa using hg
        by_cases hm : 16 < sg
        · have HF' : Hid (r = (0, true, false)) := by
            have h := HF.out
            rw [fm, if_neg hg, if_pos hm] at h
            exact h.symm
          clear hg
          go_wp2_with fail
          go_ret3
          rw [HF'.out]
          exact ⟨rfl, rfl⟩
        · have HF' : Hid ((m2 16 0 (bl t), true, true) = r) := by
            have h := HF.out
            rw [fm, if_neg hg, if_neg hm] at h
            exact h
          clear hg HF
          go_wp2_with fail
          go_loop [14, 15] (fun a i => ∃ (k : Nat) (v : Int), k ≤ t.size ∧ i = .int .i64 k ∧ a = .int .u64 v ∧ 0 ≤ v ∧ v ≤ M64
              ∧ (m2 16 v ((bl t).drop k), true, true) = r) (fun _ i => t.size - (intOf i).toNat)
          case atStart =>
            exact ⟨0, 0, by omega, rfl, rfl, by omega, by decide, HF'.out⟩
          case round =>
            clear HF'
            obtain ⟨j, v, hj, rfl, rfl, hv0, hv1, hx⟩ := hrel
            have HX : Hid ((m2 16 v ((bl t).drop j), true, true) = r) := hx
            clear hx
            by_cases hlt : j < t.size
            · have HD : Hid ((bl t).drop j = bt t j :: (bl t).drop (j + 1)) := bl_drop t j hlt
              have q0 := bt_nonneg t j
              have q1 := bt_le t j
              by_cases h95 : bt t j = 95
              · have h95' : (bt t j == 95) = true := by simpa using h95
                have HG : Hid ((m2 16 v ((bl t).drop (j + 1)), true, true) = r) := by
                  have h := HX.out
                  rw [HD.out, m2_us h95] at h
                  exact h
                clear h95
                go_wp2_with (first | (go_at_call 31; refine (digitOf_hex _ _ (by omega) (by omega)).mono ?_; rintro e w' ⟨rfl, rfl⟩))
                go_round
                case rel => exact ⟨j + 1, v, by omega, by go_num, rfl, hv0, hv1, HG.out⟩
                case measure => simp [intOf]; omega
              · have h95' : (bt t j == 95) = false := by simpa using h95
                have HG : Hid ((m2 16 ((v * 16 + dvP 16 (bt t j)) % 18446744073709551616) ((bl t).drop (j + 1)), true, true) = r) := by
                  have h := HX.out
                  rw [HD.out, m2_dig h95] at h
                  exact h
                clear h95
                have d0 := (dvP_bd 16 (bt t j)).1
                have d1 := (dvP_bd 16 (bt t j)).2
                go_wp2_with (first | (go_at_call 31; refine (digitOf_hex _ _ (by omega) (by omega)).mono ?_; rintro e w' ⟨rfl, rfl⟩))
                go_round
                case rel => exact ⟨j + 1, (v * 16 + dvP 16 (bt t j)) % 18446744073709551616, by omega, by go_num, by rw [wrap_mul], by omega, by unfold M64; omega, HG.out⟩
                case measure => simp [intOf]; omega
            · have HF : Hid ((v, true, true) = r) := by
                have h := HX.out
                rw [bl_drop_end t j (by omega), m2] at h
                exact h
              go_wp2_with fail
              go_ret3
              rw [← HF.out]
              exact ⟨rfl, rfl⟩
set_option maxHeartbeats 1000000 in
theorem model_b (s : ByteArray) (w : World) (r : Int × Bool × Bool) (hs : s.size ≤ maxLen) (h2 : 2 ≤ s.size) (h0 : bt s 0 = 48) (c1 : bt s 1 = 98)
    (hr : fm 2 64 ((bl s).drop 2) (m1 2 0 0 ((bl s).drop 2)) = r) :
    Calls Try.prog 20 #[.string s] w fun e w' => e = .returned (.tuple #[.int .u64 r.1, .bool r.2.1, .bool r.2.2]) ∧ w' = w := by
  have hb := get_bt s
  have hsz : (s.extract 2 s.size).size = s.size - 2 := by simp
  rw [← bl_suffix s 2] at hr
  have HR : Hid (fm 2 64 (bl (s.extract 2 s.size)) (m1 2 0 0 (bl (s.extract 2 s.size))) = r) := hr
  clear hr
  unfold maxLen at hs
  go_enter Try.func20, Try.ntmps20
  go_wp2_with (fail)
  generalize s.extract 2 s.size = t at *
  clear hb h0 c1
  have hb := get_bt t
  go_loop [7, 8, 9] (fun a b i => ∃ (k : Nat) (g sg : Int), k ≤ t.size ∧ i = .int .i64 k ∧ a = .int .i64 g ∧ b = .int .i64 sg ∧ 0 ≤ g ∧ g ≤ k ∧ 0 ≤ sg ∧ sg ≤ k
      ∧ fm 2 64 (bl t) (m1 2 g sg ((bl t).drop k)) = r) (fun _ _ i => t.size - (intOf i).toNat)
  case atStart =>
    exact ⟨0, 0, 0, by omega, rfl, rfl, rfl, by omega, by omega, by omega, by omega, HR.out⟩
  case round =>
    clear HR
    obtain ⟨k, g, sg, hk, rfl, rfl, rfl, hg0, hg1, hs0, hs1, hx⟩ := hrel
    have HX : Hid (fm 2 64 (bl t) (m1 2 g sg ((bl t).drop k)) = r) := hx
    clear hx
    by_cases hlt : k < t.size
    · have HD : Hid ((bl t).drop k = bt t k :: (bl t).drop (k + 1)) := bl_drop t k hlt
      have q0 := bt_nonneg t k
      have q1 := bt_le t k
      by_cases h95 : bt t k = 95
      · have h95' : (bt t k == 95) = true := by simpa using h95
        have H95 : Hid (bt t k = 95) := h95
        clear h95
        by_cases hg : g = 0
        · subst hg
          have HF : Hid (r = (0, true, false)) := by
            have h := HX.out
            rw [HD.out, m1_us_no H95.out] at h
            exact h.symm
          go_wp2_with (first | (go_at_call 31; refine (digitOf_bin _ _ (by omega) (by omega)).mono ?_; rintro e w' ⟨rfl, rfl⟩))
          go_ret3
          rw [HF.out]
          exact ⟨rfl, rfl⟩
        · have hg' : (g == 0) = false := by simpa using hg
          have HG : Hid (fm 2 64 (bl t) (m1 2 0 sg ((bl t).drop (k + 1))) = r) := by
            have h := HX.out
            rw [HD.out, m1_us H95.out (by omega)] at h
            exact h
          clear hg
          go_wp2_with (first | (go_at_call 31; refine (digitOf_bin _ _ (by omega) (by omega)).mono ?_; rintro e w' ⟨rfl, rfl⟩))
          go_round
          case rel => exact ⟨k + 1, 0, sg, by omega, by go_num, rfl, rfl, by omega, by omega, hs0, by omega, HG.out⟩
          case measure => simp [intOf]; omega
      · have h95' : (bt t k == 95) = false := by simpa using h95
        have H95 : Hid (bt t k ≠ 95) := h95
        clear h95
        have d0 := (hexD_bd (bt t k)).1
        have d1 := (hexD_bd (bt t k)).2
        by_cases hd : hexD (bt t k) < 2
        · have HE : Hid (dvP 2 (bt t k) = hexD (bt t k)) := by show _ = _; unfold dvP; rw [if_pos hd]
          by_cases hsg : 0 < sg
          · have HG : Hid (fm 2 64 (bl t) (m1 2 (g + 1) (sg + 1) ((bl t).drop (k + 1))) = r) := by
              have h := HX.out
              rw [HD.out, m1_sig H95.out hd (.inl hsg)] at h
              exact h
            go_wp2_with (first | (go_at_call 31; refine (digitOf_bin _ _ (by omega) (by omega)).mono ?_; rintro e w' ⟨rfl, rfl⟩))
            go_round
            case rel => exact ⟨k + 1, g + 1, sg + 1, by omega, by go_num, rfl, rfl, by omega, by omega, by omega, by omega, HG.out⟩
            case measure => simp [intOf]; omega
          · by_cases hz : hexD (bt t k) = 0
            · have hz' : (dvP 2 (bt t k) != 0) = false := by rw [HE.out, hz]; rfl
              have HG : Hid (fm 2 64 (bl t) (m1 2 (g + 1) sg ((bl t).drop (k + 1))) = r) := by
                have h := HX.out
                rw [HD.out, m1_zero H95.out hd (by omega)] at h
                exact h
              clear hz
              go_wp2_with (first | (go_at_call 31; refine (digitOf_bin _ _ (by omega) (by omega)).mono ?_; rintro e w' ⟨rfl, rfl⟩))
              go_round
              case rel => exact ⟨k + 1, g + 1, sg, by omega, by go_num, rfl, rfl, by omega, by omega, by omega, by omega, HG.out⟩
              case measure => simp [intOf]; omega
            · have hz' : (dvP 2 (bt t k) != 0) = true := by rw [HE.out, bne_iff_ne]; exact hz
              have HG : Hid (fm 2 64 (bl t) (m1 2 (g + 1) (sg + 1) ((bl t).drop (k + 1))) = r) := by
                have h := HX.out
                rw [HD.out, m1_sig H95.out hd (.inr hz)] at h
                exact h
              clear hz
              go_wp2_with (first | (go_at_call 31; refine (digitOf_bin _ _ (by omega) (by omega)).mono ?_; rintro e w' ⟨rfl, rfl⟩))
              go_round
              case rel => exact ⟨k + 1, g + 1, sg + 1, by omega, by go_num, rfl, rfl, by omega, by omega, by omega, by omega, HG.out⟩
              case measure => simp [intOf]; omega
        · have HF : Hid (r = (0, true, false)) := by
            have h := HX.out
            rw [HD.out, m1_bad H95.out (by omega)] at h
            exact h.symm
          have hdec : decide (hexD (bt t k) < 2) = false := by simpa using hd
          go_wp2_with (first | (go_at_call 31; refine (digitOf_bin _ _ (by omega) (by omega)).mono ?_; rintro e w' ⟨rfl, rfl⟩))
          go_ret3
          rw [HF.out]
          exact ⟨rfl, rfl⟩
    · have HF : Hid (fm 2 64 (bl t) (some (g, sg)) = r) := by
        have h := HX.out
        rw [bl_drop_end t k (by omega), m1] at h
        exact h
      clear HX
      by_cases hg : g = 0
      · subst hg
        have HF' : Hid (r = (0, true, false)) := by
          have h := HF.out
          rw [fm, if_pos rfl] at h
          exact h.symm
        go_wp2_with fail
        go_ret3
        rw [HF'.out]
        exact ⟨rfl, rfl⟩
      · have hg' : (g == 0) = false := by simpa using hg
        by_cases hm : 64 < sg
        · have HF' : Hid (r = (0, true, false)) := by
            have h := HF.out
            rw [fm, if_neg hg, if_pos hm] at h
            exact h.symm
          clear hg
          go_wp2_with fail
          go_ret3
          rw [HF'.out]
          exact ⟨rfl, rfl⟩
        · have HF' : Hid ((m2 2 0 (bl t), true, true) = r) := by
            have h := HF.out
            rw [fm, if_neg hg, if_neg hm] at h
            exact h
          clear hg HF
          go_wp2_with fail
          go_loop [14, 15] (fun a i => ∃ (k : Nat) (v : Int), k ≤ t.size ∧ i = .int .i64 k ∧ a = .int .u64 v ∧ 0 ≤ v ∧ v ≤ M64
              ∧ (m2 2 v ((bl t).drop k), true, true) = r) (fun _ i => t.size - (intOf i).toNat)
          case atStart =>
            exact ⟨0, 0, by omega, rfl, rfl, by omega, by decide, HF'.out⟩
          case round =>
            clear HF'
            obtain ⟨j, v, hj, rfl, rfl, hv0, hv1, hx⟩ := hrel
            have HX : Hid ((m2 2 v ((bl t).drop j), true, true) = r) := hx
            clear hx
            by_cases hlt : j < t.size
            · have HD : Hid ((bl t).drop j = bt t j :: (bl t).drop (j + 1)) := bl_drop t j hlt
              have q0 := bt_nonneg t j
              have q1 := bt_le t j
              by_cases h95 : bt t j = 95
              · have h95' : (bt t j == 95) = true := by simpa using h95
                have HG : Hid ((m2 2 v ((bl t).drop (j + 1)), true, true) = r) := by
                  have h := HX.out
                  rw [HD.out, m2_us h95] at h
                  exact h
                clear h95
                go_wp2_with (first | (go_at_call 31; refine (digitOf_bin _ _ (by omega) (by omega)).mono ?_; rintro e w' ⟨rfl, rfl⟩))
                go_round
                case rel => exact ⟨j + 1, v, by omega, by go_num, rfl, hv0, hv1, HG.out⟩
                case measure => simp [intOf]; omega
              · have h95' : (bt t j == 95) = false := by simpa using h95
                have HG : Hid ((m2 2 ((v * 2 + dvP 2 (bt t j)) % 18446744073709551616) ((bl t).drop (j + 1)), true, true) = r) := by
                  have h := HX.out
                  rw [HD.out, m2_dig h95] at h
                  exact h
                clear h95
                have d0 := (dvP_bd 2 (bt t j)).1
                have d1 := (dvP_bd 2 (bt t j)).2
                go_wp2_with (first | (go_at_call 31; refine (digitOf_bin _ _ (by omega) (by omega)).mono ?_; rintro e w' ⟨rfl, rfl⟩))
                go_round
                case rel => exact ⟨j + 1, (v * 2 + dvP 2 (bt t j)) % 18446744073709551616, by omega, by go_num, by rw [wrap_mul], by omega, by unfold M64; omega, HG.out⟩
                case measure => simp [intOf]; omega
            · have HF : Hid ((v, true, true) = r) := by
                have h := HX.out
                rw [bl_drop_end t j (by omega), m2] at h
                exact h
              go_wp2_with fail
              go_ret3
              rw [← HF.out]
              exact ⟨rfl, rfl⟩
set_option maxHeartbeats 1000000 in
theorem model_B (s : ByteArray) (w : World) (r : Int × Bool × Bool) (hs : s.size ≤ maxLen) (h2 : 2 ≤ s.size) (h0 : bt s 0 = 48) (c1 : bt s 1 = 66)
    (hr : fm 2 64 ((bl s).drop 2) (m1 2 0 0 ((bl s).drop 2)) = r) :
    Calls Try.prog 20 #[.string s] w fun e w' => e = .returned (.tuple #[.int .u64 r.1, .bool r.2.1, .bool r.2.2]) ∧ w' = w := by
  have hb := get_bt s
  have hsz : (s.extract 2 s.size).size = s.size - 2 := by simp
  rw [← bl_suffix s 2] at hr
  have HR : Hid (fm 2 64 (bl (s.extract 2 s.size)) (m1 2 0 0 (bl (s.extract 2 s.size))) = r) := hr
  clear hr
  unfold maxLen at hs
  go_enter Try.func20, Try.ntmps20
  go_wp2_with (fail)
  generalize s.extract 2 s.size = t at *
  clear hb h0 c1
  have hb := get_bt t
  go_loop [7, 8, 9] (fun a b i => ∃ (k : Nat) (g sg : Int), k ≤ t.size ∧ i = .int .i64 k ∧ a = .int .i64 g ∧ b = .int .i64 sg ∧ 0 ≤ g ∧ g ≤ k ∧ 0 ≤ sg ∧ sg ≤ k
      ∧ fm 2 64 (bl t) (m1 2 g sg ((bl t).drop k)) = r) (fun _ _ i => t.size - (intOf i).toNat)
  case atStart =>
    exact ⟨0, 0, 0, by omega, rfl, rfl, rfl, by omega, by omega, by omega, by omega, HR.out⟩
  case round =>
    clear HR
    obtain ⟨k, g, sg, hk, rfl, rfl, rfl, hg0, hg1, hs0, hs1, hx⟩ := hrel
    have HX : Hid (fm 2 64 (bl t) (m1 2 g sg ((bl t).drop k)) = r) := hx
    clear hx
    by_cases hlt : k < t.size
    · have HD : Hid ((bl t).drop k = bt t k :: (bl t).drop (k + 1)) := bl_drop t k hlt
      have q0 := bt_nonneg t k
      have q1 := bt_le t k
      by_cases h95 : bt t k = 95
      · have h95' : (bt t k == 95) = true := by simpa using h95
        have H95 : Hid (bt t k = 95) := h95
        clear h95
        by_cases hg : g = 0
        · subst hg
          have HF : Hid (r = (0, true, false)) := by
            have h := HX.out
            rw [HD.out, m1_us_no H95.out] at h
            exact h.symm
          go_wp2_with (first | (go_at_call 31; refine (digitOf_bin _ _ (by omega) (by omega)).mono ?_; rintro e w' ⟨rfl, rfl⟩))
          go_ret3
          rw [HF.out]
          exact ⟨rfl, rfl⟩
        · have hg' : (g == 0) = false := by simpa using hg
          have HG : Hid (fm 2 64 (bl t) (m1 2 0 sg ((bl t).drop (k + 1))) = r) := by
            have h := HX.out
            rw [HD.out, m1_us H95.out (by omega)] at h
            exact h
          clear hg
          go_wp2_with (first | (go_at_call 31; refine (digitOf_bin _ _ (by omega) (by omega)).mono ?_; rintro e w' ⟨rfl, rfl⟩))
          go_round
          case rel => exact ⟨k + 1, 0, sg, by omega, by go_num, rfl, rfl, by omega, by omega, hs0, by omega, HG.out⟩
          case measure => simp [intOf]; omega
      · have h95' : (bt t k == 95) = false := by simpa using h95
        have H95 : Hid (bt t k ≠ 95) := h95
        clear h95
        have d0 := (hexD_bd (bt t k)).1
        have d1 := (hexD_bd (bt t k)).2
        by_cases hd : hexD (bt t k) < 2
        · have HE : Hid (dvP 2 (bt t k) = hexD (bt t k)) := by show _ = _; unfold dvP; rw [if_pos hd]
          by_cases hsg : 0 < sg
          · have HG : Hid (fm 2 64 (bl t) (m1 2 (g + 1) (sg + 1) ((bl t).drop (k + 1))) = r) := by
              have h := HX.out
              rw [HD.out, m1_sig H95.out hd (.inl hsg)] at h
              exact h
            go_wp2_with (first | (go_at_call 31; refine (digitOf_bin _ _ (by omega) (by omega)).mono ?_; rintro e w' ⟨rfl, rfl⟩))
            go_round
            case rel => exact ⟨k + 1, g + 1, sg + 1, by omega, by go_num, rfl, rfl, by omega, by omega, by omega, by omega, HG.out⟩
            case measure => simp [intOf]; omega
          · by_cases hz : hexD (bt t k) = 0
            · have hz' : (dvP 2 (bt t k) != 0) = false := by rw [HE.out, hz]; rfl
              have HG : Hid (fm 2 64 (bl t) (m1 2 (g + 1) sg ((bl t).drop (k + 1))) = r) := by
                have h := HX.out
                rw [HD.out, m1_zero H95.out hd (by omega)] at h
                exact h
              clear hz
              go_wp2_with (first | (go_at_call 31; refine (digitOf_bin _ _ (by omega) (by omega)).mono ?_; rintro e w' ⟨rfl, rfl⟩))
              go_round
              case rel => exact ⟨k + 1, g + 1, sg, by omega, by go_num, rfl, rfl, by omega, by omega, by omega, by omega, HG.out⟩
              case measure => simp [intOf]; omega
            · have hz' : (dvP 2 (bt t k) != 0) = true := by rw [HE.out, bne_iff_ne]; exact hz
              have HG : Hid (fm 2 64 (bl t) (m1 2 (g + 1) (sg + 1) ((bl t).drop (k + 1))) = r) := by
                have h := HX.out
                rw [HD.out, m1_sig H95.out hd (.inr hz)] at h
                exact h
              clear hz
              go_wp2_with (first | (go_at_call 31; refine (digitOf_bin _ _ (by omega) (by omega)).mono ?_; rintro e w' ⟨rfl, rfl⟩))
              go_round
              case rel => exact ⟨k + 1, g + 1, sg + 1, by omega, by go_num, rfl, rfl, by omega, by omega, by omega, by omega, HG.out⟩
              case measure => simp [intOf]; omega
        · have HF : Hid (r = (0, true, false)) := by
            have h := HX.out
            rw [HD.out, m1_bad H95.out (by omega)] at h
            exact h.symm
          have hdec : decide (hexD (bt t k) < 2) = false := by simpa using hd
          go_wp2_with (first | (go_at_call 31; refine (digitOf_bin _ _ (by omega) (by omega)).mono ?_; rintro e w' ⟨rfl, rfl⟩))
          go_ret3
          rw [HF.out]
          exact ⟨rfl, rfl⟩
    · have HF : Hid (fm 2 64 (bl t) (some (g, sg)) = r) := by
        have h := HX.out
        rw [bl_drop_end t k (by omega), m1] at h
        exact h
      clear HX
      by_cases hg : g = 0
      · subst hg
        have HF' : Hid (r = (0, true, false)) := by
          have h := HF.out
          rw [fm, if_pos rfl] at h
          exact h.symm
        go_wp2_with fail
        go_ret3
        rw [HF'.out]
        exact ⟨rfl, rfl⟩
      · have hg' : (g == 0) = false := by simpa using hg
        by_cases hm : 64 < sg
        · have HF' : Hid (r = (0, true, false)) := by
            have h := HF.out
            rw [fm, if_neg hg, if_pos hm] at h
            exact h.symm
          clear hg
          go_wp2_with fail
          go_ret3
          rw [HF'.out]
          exact ⟨rfl, rfl⟩
        · have HF' : Hid ((m2 2 0 (bl t), true, true) = r) := by
            have h := HF.out
            rw [fm, if_neg hg, if_neg hm] at h
            exact h
          clear hg HF
          go_wp2_with fail
          go_loop [14, 15] (fun a i => ∃ (k : Nat) (v : Int), k ≤ t.size ∧ i = .int .i64 k ∧ a = .int .u64 v ∧ 0 ≤ v ∧ v ≤ M64
              ∧ (m2 2 v ((bl t).drop k), true, true) = r) (fun _ i => t.size - (intOf i).toNat)
          case atStart =>
            exact ⟨0, 0, by omega, rfl, rfl, by omega, by decide, HF'.out⟩
          case round =>
            clear HF'
            obtain ⟨j, v, hj, rfl, rfl, hv0, hv1, hx⟩ := hrel
            have HX : Hid ((m2 2 v ((bl t).drop j), true, true) = r) := hx
            clear hx
            by_cases hlt : j < t.size
            · have HD : Hid ((bl t).drop j = bt t j :: (bl t).drop (j + 1)) := bl_drop t j hlt
              have q0 := bt_nonneg t j
              have q1 := bt_le t j
              by_cases h95 : bt t j = 95
              · have h95' : (bt t j == 95) = true := by simpa using h95
                have HG : Hid ((m2 2 v ((bl t).drop (j + 1)), true, true) = r) := by
                  have h := HX.out
                  rw [HD.out, m2_us h95] at h
                  exact h
                clear h95
                go_wp2_with (first | (go_at_call 31; refine (digitOf_bin _ _ (by omega) (by omega)).mono ?_; rintro e w' ⟨rfl, rfl⟩))
                go_round
                case rel => exact ⟨j + 1, v, by omega, by go_num, rfl, hv0, hv1, HG.out⟩
                case measure => simp [intOf]; omega
              · have h95' : (bt t j == 95) = false := by simpa using h95
                have HG : Hid ((m2 2 ((v * 2 + dvP 2 (bt t j)) % 18446744073709551616) ((bl t).drop (j + 1)), true, true) = r) := by
                  have h := HX.out
                  rw [HD.out, m2_dig h95] at h
                  exact h
                clear h95
                have d0 := (dvP_bd 2 (bt t j)).1
                have d1 := (dvP_bd 2 (bt t j)).2
                go_wp2_with (first | (go_at_call 31; refine (digitOf_bin _ _ (by omega) (by omega)).mono ?_; rintro e w' ⟨rfl, rfl⟩))
                go_round
                case rel => exact ⟨j + 1, (v * 2 + dvP 2 (bt t j)) % 18446744073709551616, by omega, by go_num, by rw [wrap_mul], by omega, by unfold M64; omega, HG.out⟩
                case measure => simp [intOf]; omega
            · have HF : Hid ((v, true, true) = r) := by
                have h := HX.out
                rw [bl_drop_end t j (by omega), m2] at h
                exact h
              go_wp2_with fail
              go_ret3
              rw [← HF.out]
              exact ⟨rfl, rfl⟩

theorem model_any (s : ByteArray) (w : World) (hs : s.size ≤ maxLen) :
    Calls Try.prog 20 #[.string s] w fun e w' => e = .returned (.tuple #[.int .u64 (modelP (bl s)).1, .bool (modelP (bl s)).2.1, .bool (modelP (bl s)).2.2]) ∧ w' = w := by
  unfold modelP
  rw [bl_length, bl_getD, bl_getD]
  by_cases h2 : s.size < 2
  · rw [if_pos h2]; exact model_nope s w hs (.inl h2)
  rw [if_neg h2]
  by_cases h0 : bt s 0 = 48
  · rw [if_neg (by simp [h0])]
    by_cases c1 : bt s 1 = 120 ∨ bt s 1 = 88
    · rw [if_pos c1]
      rcases c1 with c1 | c1
      · exact model_x s w _ hs (by omega) h0 c1 rfl
      · exact model_X s w _ hs (by omega) h0 c1 rfl
    · rw [if_neg c1]
      by_cases c2 : bt s 1 = 98 ∨ bt s 1 = 66
      · rw [if_pos c2]
        rcases c2 with c2 | c2
        · exact model_b s w _ hs (by omega) h0 c2 rfl
        · exact model_B s w _ hs (by omega) h0 c2 rfl
      · rw [if_neg c2]; exact model_nope2 s w hs (by omega) h0 (by omega) (by omega) (by omega) (by omega)
  · rw [if_pos h0]; exact model_nope s w hs (.inr h0)

end Go.Proofs.Qxb6603772a.Wk
