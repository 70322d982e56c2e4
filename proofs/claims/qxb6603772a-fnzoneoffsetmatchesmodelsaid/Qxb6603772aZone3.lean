/- zoneOffset at a plus sign. -/
import Derived.Test.Qxb6603772aZone2
namespace Go.Proofs.Qxb6603772a.Zn
set_option linter.unusedVariables false
set_option linter.unusedSimpArgs false
open Go.ChangeShapes Go.WideShapes Go.ChangeAt Go.RowKit Go.PlainAid
open Go.Proofs.Qxb6603772a.Bs Go.Proofs.Qxb6603772a.Wk

set_option maxHeartbeats 1000000 in
theorem zone_plus (s : ByteArray) (w : World) (hm : s.size ≤ maxLen) (h : 0 < s.size) (c1 : bt s 0 = 43) :
    Calls Try.prog 24 #[.string s] w fun e w' => RetIB (ZS (bt s) s.size) e ∧ ∃ n, w' = w.drewN n := by
  have hb := get_bt s
  have hem : s.toList.isEmpty = false := by rw [isEmpty_dec]; simp; intro e; rw [e] at h; simp at h
  have hm2 := hm
  unfold maxLen at hm
  have HC : Hid (bt s 0 = 43) := c1
  have HSC : Hid (bt s 0 = 43 ∨ bt s 0 = 45) := .inl c1
  have HSG : Hid (sgn (bt s) = 1) := by show _ = _; unfold sgn; rw [if_neg (by omega)]
  go_enter Try.func24, Try.ntmps24
  go_upto_block 1 with fail
  go_cut [5] (fun v wc => wc = w ∧ ∃ d : Nat, v = .int .i64 d ∧ 1 + d ≤ s.size ∧ IsRun (bt s) 1 d)
  case first =>
    go_wp2_with fail
    go_loop [5] (fun v => ∃ d : Nat, v = .int .i64 d ∧ 1 + d ≤ s.size ∧ ∀ j, j < d → digB (bt s (1 + j)) = true) (fun v => s.size - (intOf v).toNat)
    case atStart => exact ⟨0, rfl, by omega, by omega⟩
    case round =>
      obtain ⟨d, rfl, hd, hall⟩ := hrel
      have HA : Hid (∀ j, j < d → digB (bt s (1 + j)) = true) := hall
      clear hall
      by_cases hlt : d + 1 < s.size
      · have q0 := bt_nonneg s (d + 1)
        have q1 := bt_le s (d + 1)
        cases hdg : digB (bt s (d + 1))
        · have HR : Hid (IsRun (bt s) 1 d) := ⟨HA.out, by rw [Nat.add_comm]; exact hdg⟩
          go_wp2_with (go_at_call 32; refine (isDigit_any _ _ (by omega) (by omega)).mono ?_; rintro e w' ⟨rfl, rfl⟩)
          go_meet
          case rel => exact ⟨rfl, d, rfl, hd, HR.out⟩
        · have HN : Hid (∀ j, j < d + 1 → digB (bt s (1 + j)) = true) := by
            intro j hj
            by_cases e : j < d
            · exact HA.out j e
            · obtain rfl : d = j := by omega
              rw [Nat.add_comm]; exact hdg
          go_wp2_with (go_at_call 32; refine (isDigit_any _ _ (by omega) (by omega)).mono ?_; rintro e w' ⟨rfl, rfl⟩)
          go_round
          case rel => exact ⟨d + 1, by go_num, by omega, HN.out⟩
          case measure => simp [intOf]; omega
      · have HR : Hid (IsRun (bt s) 1 d) := ⟨HA.out, by rw [bt_end s (by omega)]; rfl⟩
        go_wp2_with fail
        go_meet
        case rel => exact ⟨rfl, d, rfl, hd, HR.out⟩
  case rest =>
    obtain ⟨rfl, d, rfl, hd, hrun⟩ := hcut
    have HR : Hid (IsRun (bt s) 1 d) := hrun
    clear hrun
    by_cases hd2 : d = 2
    · subst hd2
      have r1 : digB (bt s 1) = true := HR.out.1 0 (by omega)
      have r2 : digB (bt s 2) = true := HR.out.1 1 (by omega)
      have b1 := (two_bd r1 r2).1
      have b2 := (two_bd r1 r2).2
      go_wp2_with fail
      refine (twoDigits_at _ (bt s 1) (bt s 2) _ (by simp; omega) (by rw [bt_mid _ _ _ _ (by omega) (by omega)]) (by rw [bt_mid _ _ _ _ (by omega) (by omega)]) r1 r2).mono ?_
      rintro e w1 ⟨rfl, n1, hw1⟩
      subst hw1
      generalize hT1 : two (bt s 1) (bt s 2) = T1 at *
      have HT1 : Hid (two (bt s 1) (bt s 2) = T1) := hT1
      clear hT1
      have i0 : ∀ w, (Instr.index 54 (.agg #[.int .i64 60, .int .i64 1]) (.int .i64 0)).run Try.prog w = .ok (.int .i64 60) w := fun _ => by kernel_rfl
      have i1 : ∀ w, (Instr.index 54 (.agg #[.int .i64 60, .int .i64 1]) (.int .i64 1)).run Try.prog w = .ok (.int .i64 1) w := fun _ => by kernel_rfl
      have hx1 : (s.extract 3 s.size).size = s.size - 3 := by simp
      have hbx : Hid (∀ j, bt (s.extract 3 s.size) j = bt s (3 + j)) := fun j => bt_ext s 3 j
      go_wp2_with fail
      go_loopw [0, 4, 62] (fun v o c wr => ∃ (i n : Nat) (t : ByteArray), i ≤ 2 ∧ c = .int .i64 i ∧ v = .string t ∧ 3 + 3 * i + t.size = s.size ∧ (∀ j, bt t j = bt s (3 + 3 * i + j))
          ∧ o = .int .i64 (offA (bt s) i) ∧ (∀ m, m < i → Fd (bt s) (3 + 3 * m)) ∧ wr = wc.drewN n) (fun _ _ c _ => 2 - (intOf c).toNat)
      case atStart => exact ⟨0, n1, _, by omega, rfl, rfl, by rw [hx1]; omega, hbx.out, by rw [offA, HT1.out], by omega, rfl⟩
      case round =>
        clear hx1 hbx
        obtain ⟨i, n, t, hi, rfl, rfl, hts, hbt, rfl, hF, rfl⟩ := hrel
        have HB : Hid (∀ j, bt t j = bt s (3 + 3 * i + j)) := hbt
        have HF : Hid (∀ m, m < i → Fd (bt s) (3 + 3 * m)) := hF
        clear hbt hF
        have htb := get_bt t
        have htm : t.size ≤ maxLen := by omega
        rcases (show i = 0 ∨ i = 1 ∨ i = 2 by omega) with rfl | rfl | rfl
        · rw [show offA (bt s) 0 = T1 * 3600 from by rw [offA, HT1.out]]
          have e0 : bt t 0 = bt s 3 := HB.out 0
          have e1 : bt t 1 = bt s 4 := HB.out 1
          have e2 : bt t 2 = bt s 5 := HB.out 2
          have HE0 : Hid (bt t 0 = bt s 3) := e0
          have HE1 : Hid (bt t 1 = bt s 4) := e1
          have HE2 : Hid (bt t 2 = bt s 5) := e2
          have HOK := fun u (hu : TrimOf t u) => trim_ok (s := s) (p := 3) hts HB.out hu
          clear e0 e1 e2
          have q0 := bt_nonneg t 0
          have q1 := bt_nonneg t 1
          have q2 := bt_nonneg t 2
          have p0 := bt_le t 0
          have p1 := bt_le t 1
          have p2 := bt_le t 2
          by_cases l3 : t.size < 3
          · have HNF : Hid (¬ Fd (bt s) 3) := by
              intro f
              have := bt_of_dig f.2.2
              omega
            go_wp2_with (first | (go_at_call 32; refine (isDigit_any _ _ (by omega) (by omega)).mono ?_; rintro e w' ⟨rfl, hw'⟩; rw [hw']; clear hw') | (go_at_call 36; refine (trimLeft_any _ _ htm).mono ?_; rintro e w' ⟨⟨u, rfl, hu⟩, hw'⟩; rw [hw']; clear hw'))
            go_ret2
            exact ⟨⟨_, u.toList.isEmpty, rfl, .inr (.inr (.inl ⟨h, HSC.out, 2, HR.out, hd, .inl ⟨rfl, HNF.out, by rw [HT1.out, HSG.out]; omega, HOK u hu⟩⟩))⟩, _, rfl⟩
          by_cases l0 : bt t 0 = 58
          case neg =>
            have HNF : Hid (¬ Fd (bt s) 3) := fun f => l0 (HE0.out.trans f.1)
            have l0' : (bt t 0 != 58) = true := by rw [bne_iff_ne]; exact l0
            clear l0
            go_wp2_with (first | (go_at_call 32; refine (isDigit_any _ _ (by omega) (by omega)).mono ?_; rintro e w' ⟨rfl, hw'⟩; rw [hw']; clear hw') | (go_at_call 36; refine (trimLeft_any _ _ htm).mono ?_; rintro e w' ⟨⟨u, rfl, hu⟩, hw'⟩; rw [hw']; clear hw'))
            go_ret2
            exact ⟨⟨_, u.toList.isEmpty, rfl, .inr (.inr (.inl ⟨h, HSC.out, 2, HR.out, hd, .inl ⟨rfl, HNF.out, by rw [HT1.out, HSG.out]; omega, HOK u hu⟩⟩))⟩, _, rfl⟩
          case pos =>
            have l0' : (bt t 0 != 58) = false := by rw [l0]; rfl
            have HL0 : Hid (bt t 0 = 58) := l0
            clear l0
            cases l1 : digB (bt t 1)
            · have HNF : Hid (¬ Fd (bt s) 3) := by
                intro f
                rw [HE1.out, f.2.1] at l1
                cases l1
              go_wp2_with (first | (go_at_call 32; refine (isDigit_any _ _ (by omega) (by omega)).mono ?_; rintro e w' ⟨rfl, hw'⟩; rw [hw']; clear hw') | (go_at_call 36; refine (trimLeft_any _ _ htm).mono ?_; rintro e w' ⟨⟨u, rfl, hu⟩, hw'⟩; rw [hw']; clear hw'))
              go_ret2
              exact ⟨⟨_, u.toList.isEmpty, rfl, .inr (.inr (.inl ⟨h, HSC.out, 2, HR.out, hd, .inl ⟨rfl, HNF.out, by rw [HT1.out, HSG.out]; omega, HOK u hu⟩⟩))⟩, _, rfl⟩
            · cases l2 : digB (bt t 2)
              · have HNF : Hid (¬ Fd (bt s) 3) := by
                  intro f
                  rw [HE2.out, f.2.2] at l2
                  cases l2
                go_wp2_with (first | (go_at_call 32; refine (isDigit_any _ _ (by omega) (by omega)).mono ?_; rintro e w' ⟨rfl, hw'⟩; rw [hw']; clear hw') | (go_at_call 36; refine (trimLeft_any _ _ htm).mono ?_; rintro e w' ⟨⟨u, rfl, hu⟩, hw'⟩; rw [hw']; clear hw'))
                go_ret2
                exact ⟨⟨_, u.toList.isEmpty, rfl, .inr (.inr (.inl ⟨h, HSC.out, 2, HR.out, hd, .inl ⟨rfl, HNF.out, by rw [HT1.out, HSG.out]; omega, HOK u hu⟩⟩))⟩, _, rfl⟩
              · have HFp : Hid (Fd (bt s) 3) := ⟨HE0.out ▸ HL0.out, HE1.out ▸ l1, HE2.out ▸ l2⟩
                have HFall : Hid (∀ m, m < 1 → Fd (bt s) (3 + 3 * m)) := by
                  intro m hm
                  rcases (show m < 0 ∨ m = 0 by omega) with e | e
                  · exact HF.out m e
                  · subst e; exact HFp.out
                have c3 := (two_bd l1 l2).1
                have c4 := (two_bd l1 l2).2
                have HG : Hid (two (bt t 1) (bt t 2) = two (bt s 4) (bt s 5)) := by
                  show _ = _
                  rw [HE1.out, HE2.out]
                go_wp2_with (go_at_call 32; refine (isDigit_any _ _ (by omega) (by omega)).mono ?_; rintro e w' ⟨rfl, hw'⟩; rw [hw']; clear hw')
                refine (twoDigits_at _ (bt t 1) (bt t 2) _ (by simp; omega) (by rw [bt_mid _ _ _ _ (by omega) (by omega)]) (by rw [bt_mid _ _ _ _ (by omega) (by omega)]) l1 l2).mono ?_
                rintro e w1 ⟨rfl, m1, hw1⟩
                subst hw1
                generalize hT3 : two (bt t 1) (bt t 2) = T3 at *
                clear hT3
                go_wp2_with fail
                go_roundw
                case rel => exact ⟨1, _, t.extract 3 t.size, by omega, by go_num, rfl, by simp; omega, fun j => by rw [bt_ext, HB.out]; congr 1; omega, by rw [offA, HT1.out, ← HG.out], HFall.out, rfl⟩
                case measure => simp [intOf]
        · have f0 := HF.out 0 (by omega)
          have c1 := (two_bd f0.2.1 f0.2.2).1
          have c2 := (two_bd f0.2.1 f0.2.2).2
          rw [show offA (bt s) 1 = two (bt s 1) (bt s 2) * 3600 + two (bt s 4) (bt s 5) * 60 from rfl, HT1.out]
          clear f0
          generalize hT2 : two (bt s 4) (bt s 5) = T2 at *
          have HT2 : Hid (two (bt s 4) (bt s 5) = T2) := hT2
          clear hT2
          have e0 : bt t 0 = bt s 6 := HB.out 0
          have e1 : bt t 1 = bt s 7 := HB.out 1
          have e2 : bt t 2 = bt s 8 := HB.out 2
          have HE0 : Hid (bt t 0 = bt s 6) := e0
          have HE1 : Hid (bt t 1 = bt s 7) := e1
          have HE2 : Hid (bt t 2 = bt s 8) := e2
          have HOK := fun u (hu : TrimOf t u) => trim_ok (s := s) (p := 6) hts HB.out hu
          clear e0 e1 e2
          have q0 := bt_nonneg t 0
          have q1 := bt_nonneg t 1
          have q2 := bt_nonneg t 2
          have p0 := bt_le t 0
          have p1 := bt_le t 1
          have p2 := bt_le t 2
          by_cases l3 : t.size < 3
          · have HNF : Hid (¬ Fd (bt s) 6) := by
              intro f
              have := bt_of_dig f.2.2
              omega
            go_wp2_with (first | (go_at_call 32; refine (isDigit_any _ _ (by omega) (by omega)).mono ?_; rintro e w' ⟨rfl, hw'⟩; rw [hw']; clear hw') | (go_at_call 36; refine (trimLeft_any _ _ htm).mono ?_; rintro e w' ⟨⟨u, rfl, hu⟩, hw'⟩; rw [hw']; clear hw'))
            go_ret2
            exact ⟨⟨_, u.toList.isEmpty, rfl, .inr (.inr (.inl ⟨h, HSC.out, 2, HR.out, hd, .inr (.inl ⟨rfl, HF.out 0 (by omega), HNF.out, by rw [HT1.out, HT2.out, HSG.out]; omega, HOK u hu⟩)⟩))⟩, _, rfl⟩
          by_cases l0 : bt t 0 = 58
          case neg =>
            have HNF : Hid (¬ Fd (bt s) 6) := fun f => l0 (HE0.out.trans f.1)
            have l0' : (bt t 0 != 58) = true := by rw [bne_iff_ne]; exact l0
            clear l0
            go_wp2_with (first | (go_at_call 32; refine (isDigit_any _ _ (by omega) (by omega)).mono ?_; rintro e w' ⟨rfl, hw'⟩; rw [hw']; clear hw') | (go_at_call 36; refine (trimLeft_any _ _ htm).mono ?_; rintro e w' ⟨⟨u, rfl, hu⟩, hw'⟩; rw [hw']; clear hw'))
            go_ret2
            exact ⟨⟨_, u.toList.isEmpty, rfl, .inr (.inr (.inl ⟨h, HSC.out, 2, HR.out, hd, .inr (.inl ⟨rfl, HF.out 0 (by omega), HNF.out, by rw [HT1.out, HT2.out, HSG.out]; omega, HOK u hu⟩)⟩))⟩, _, rfl⟩
          case pos =>
            have l0' : (bt t 0 != 58) = false := by rw [l0]; rfl
            have HL0 : Hid (bt t 0 = 58) := l0
            clear l0
            cases l1 : digB (bt t 1)
            · have HNF : Hid (¬ Fd (bt s) 6) := by
                intro f
                rw [HE1.out, f.2.1] at l1
                cases l1
              go_wp2_with (first | (go_at_call 32; refine (isDigit_any _ _ (by omega) (by omega)).mono ?_; rintro e w' ⟨rfl, hw'⟩; rw [hw']; clear hw') | (go_at_call 36; refine (trimLeft_any _ _ htm).mono ?_; rintro e w' ⟨⟨u, rfl, hu⟩, hw'⟩; rw [hw']; clear hw'))
              go_ret2
              exact ⟨⟨_, u.toList.isEmpty, rfl, .inr (.inr (.inl ⟨h, HSC.out, 2, HR.out, hd, .inr (.inl ⟨rfl, HF.out 0 (by omega), HNF.out, by rw [HT1.out, HT2.out, HSG.out]; omega, HOK u hu⟩)⟩))⟩, _, rfl⟩
            · cases l2 : digB (bt t 2)
              · have HNF : Hid (¬ Fd (bt s) 6) := by
                  intro f
                  rw [HE2.out, f.2.2] at l2
                  cases l2
                go_wp2_with (first | (go_at_call 32; refine (isDigit_any _ _ (by omega) (by omega)).mono ?_; rintro e w' ⟨rfl, hw'⟩; rw [hw']; clear hw') | (go_at_call 36; refine (trimLeft_any _ _ htm).mono ?_; rintro e w' ⟨⟨u, rfl, hu⟩, hw'⟩; rw [hw']; clear hw'))
                go_ret2
                exact ⟨⟨_, u.toList.isEmpty, rfl, .inr (.inr (.inl ⟨h, HSC.out, 2, HR.out, hd, .inr (.inl ⟨rfl, HF.out 0 (by omega), HNF.out, by rw [HT1.out, HT2.out, HSG.out]; omega, HOK u hu⟩)⟩))⟩, _, rfl⟩
              · have HFp : Hid (Fd (bt s) 6) := ⟨HE0.out ▸ HL0.out, HE1.out ▸ l1, HE2.out ▸ l2⟩
                have HFall : Hid (∀ m, m < 2 → Fd (bt s) (3 + 3 * m)) := by
                  intro m hm
                  rcases (show m < 1 ∨ m = 1 by omega) with e | e
                  · exact HF.out m e
                  · subst e; exact HFp.out
                have c3 := (two_bd l1 l2).1
                have c4 := (two_bd l1 l2).2
                have HG : Hid (two (bt t 1) (bt t 2) = two (bt s 7) (bt s 8)) := by
                  show _ = _
                  rw [HE1.out, HE2.out]
                go_wp2_with (go_at_call 32; refine (isDigit_any _ _ (by omega) (by omega)).mono ?_; rintro e w' ⟨rfl, hw'⟩; rw [hw']; clear hw')
                refine (twoDigits_at _ (bt t 1) (bt t 2) _ (by simp; omega) (by rw [bt_mid _ _ _ _ (by omega) (by omega)]) (by rw [bt_mid _ _ _ _ (by omega) (by omega)]) l1 l2).mono ?_
                rintro e w1 ⟨rfl, m1, hw1⟩
                subst hw1
                generalize hT3 : two (bt t 1) (bt t 2) = T3 at *
                clear hT3
                go_wp2_with fail
                go_roundw
                case rel => exact ⟨2, _, t.extract 3 t.size, by omega, by go_num, rfl, by simp; omega, fun j => by rw [bt_ext, HB.out]; congr 1; omega, by rw [show offA (bt s) 2 = two (bt s 1) (bt s 2) * 3600 + two (bt s 4) (bt s 5) * 60 + two (bt s 7) (bt s 8) from rfl, HT1.out, HT2.out, ← HG.out], HFall.out, rfl⟩
                case measure => simp [intOf]
        · have f0 := HF.out 0 (by omega)
          have f1 := HF.out 1 (by omega)
          have c1 := (two_bd f0.2.1 f0.2.2).1
          have c2 := (two_bd f0.2.1 f0.2.2).2
          have c3 := (two_bd f1.2.1 f1.2.2).1
          have c4 := (two_bd f1.2.1 f1.2.2).2
          rw [show offA (bt s) 2 = two (bt s 1) (bt s 2) * 3600 + two (bt s 4) (bt s 5) * 60 + two (bt s 7) (bt s 8) from rfl, HT1.out]
          clear f0 f1
          generalize hT2 : two (bt s 4) (bt s 5) = T2 at *
          have HT2 : Hid (two (bt s 4) (bt s 5) = T2) := hT2
          clear hT2
          generalize hT3 : two (bt s 7) (bt s 8) = T3 at *
          have HT3 : Hid (two (bt s 7) (bt s 8) = T3) := hT3
          clear hT3
          have HOK := fun u (hu : TrimOf t u) => trim_ok (s := s) (p := 9) hts HB.out hu
          go_wp2_with (first | (go_at_call 32; refine (isDigit_any _ _ (by omega) (by omega)).mono ?_; rintro e w' ⟨rfl, hw'⟩; rw [hw']; clear hw') | (go_at_call 36; refine (trimLeft_any _ _ htm).mono ?_; rintro e w' ⟨⟨u, rfl, hu⟩, hw'⟩; rw [hw']; clear hw'))
          go_ret2
          exact ⟨⟨_, u.toList.isEmpty, rfl, .inr (.inr (.inl ⟨h, HSC.out, 2, HR.out, hd, .inr (.inr (.inl ⟨rfl, HF.out 0 (by omega), HF.out 1 (by omega), by rw [HT1.out, HT2.out, HT3.out, HSG.out]; omega, HOK u hu⟩))⟩))⟩, _, rfl⟩
    · by_cases hd4 : d = 4
      · subst hd4
        have r1 : digB (bt s 1) = true := HR.out.1 0 (by omega)
        have r2 : digB (bt s 2) = true := HR.out.1 1 (by omega)
        have r3 : digB (bt s 3) = true := HR.out.1 2 (by omega)
        have r4 : digB (bt s 4) = true := HR.out.1 3 (by omega)
        have b1 := (two_bd r1 r2).1
        have b2 := (two_bd r1 r2).2
        have b3 := (two_bd r3 r4).1
        have b4 := (two_bd r3 r4).2
        have hx4 : (s.extract 1 5).size = 4 := by simp; omega
        have HX : Hid (∀ j, j < 4 → bt (s.extract 1 5) j = bt s (1 + j)) := fun j hj => bt_mid s 1 5 j (by omega) (by omega)
        have htm : (s.extract 5 s.size).size ≤ maxLen := by simp; omega
        go_wp2_with fail
        generalize s.extract 1 5 = x4 at *
        have k1 := fun wx => twoDigits_at (x4.extract 0 2) (bt s 1) (bt s 2) wx (by simp; omega) (by rw [bt_mid _ _ _ _ (by omega) (by omega), HX.out _ (by omega)]) (by rw [bt_mid _ _ _ _ (by omega) (by omega), HX.out _ (by omega)]) r1 r2
        have k2 := fun wx => twoDigits_at (x4.extract 2 4) (bt s 3) (bt s 4) wx (by simp; omega) (by rw [bt_mid _ _ _ _ (by omega) (by omega), HX.out _ (by omega)]) (by rw [bt_mid _ _ _ _ (by omega) (by omega), HX.out _ (by omega)]) r3 r4
        have K1 : Hid (∀ wx, Calls Try.prog 33 #[.string (x4.extract 0 2)] wx fun e w' => e = .returned (.int .i64 (two (bt s 1) (bt s 2))) ∧ ∃ n, w' = wx.drewN n) := k1
        have K2 : Hid (∀ wx, Calls Try.prog 33 #[.string (x4.extract 2 4)] wx fun e w' => e = .returned (.int .i64 (two (bt s 3) (bt s 4))) ∧ ∃ n, w' = wx.drewN n) := k2
        clear k1 k2
        generalize hT1 : two (bt s 1) (bt s 2) = T1 at *
        have HT1 : Hid (two (bt s 1) (bt s 2) = T1) := hT1
        generalize hT2 : two (bt s 3) (bt s 4) = T2 at *
        have HT2 : Hid (two (bt s 3) (bt s 4) = T2) := hT2
        clear hT1 hT2
        go_quiet ((first | (go_at_call_of 33 (Value.string (x4.extract 0 2)); exact Calls.quiet_of (K1.out _)) | (go_at_call_of 33 (Value.string (x4.extract 2 4)); exact Calls.quiet_of (K2.out _))))
        go_wp2_with (go_at_call 36; refine (trimLeft_any _ _ htm).mono ?_; rintro e w' ⟨⟨u, rfl, hu⟩, hw'⟩; rw [hw']; clear hw')
        go_ret2
        exact ⟨⟨_, u.toList.isEmpty, rfl, .inr (.inr (.inl ⟨h, HSC.out, 4, HR.out, hd, .inr (.inr (.inr (.inl ⟨rfl, by rw [HT1.out, HT2.out, HSG.out]; omega, trim_ok (by simp; omega) (fun j => bt_ext s 5 j) hu⟩)))⟩))⟩, _, rfl⟩
      · have e2 : ((d : Int) == 2) = false := by simp; omega
        have e4 : ((d : Int) == 4) = false := by simp; omega
        have HZ : Hid (ZS (bt s) s.size 0 false) := .inr (.inr (.inl ⟨h, HSC.out, d, HR.out, hd, .inr (.inr (.inr (.inr ⟨hd2, hd4, rfl, rfl⟩)))⟩))
        clear hd2 hd4
        go_wp2_with fail
        go_ret2
        exact ⟨⟨0, false, rfl, HZ.out⟩, 0, rfl⟩

end Go.Proofs.Qxb6603772a.Zn
