/- zoneOffset at a space, and put together. -/
import Derived.Test.Qxb6603772aZone3
import Derived.Test.Qxb6603772aZone4
namespace Go.Proofs.Qxb6603772a.Zn
set_option linter.unusedVariables false
set_option linter.unusedSimpArgs false
open Go.ChangeShapes Go.WideShapes Go.ChangeAt Go.RowKit Go.PlainAid
open Go.Proofs.Qxb6603772a.Bs Go.Proofs.Qxb6603772a.Wk

set_option maxHeartbeats 1000000 in
theorem zone_space (s : ByteArray) (w : World) (hm : s.size ≤ maxLen) (h : 0 < s.size) (c1 : bt s 0 = 32) :
    Calls Try.prog 24 #[.string s] w fun e w' => RetIB (ZS (bt s) s.size) e ∧ ∃ n, w' = w.drewN n := by
  have hb := get_bt s
  have hem : s.toList.isEmpty = false := by rw [isEmpty_dec]; simp; intro e; rw [e] at h; simp at h
  have hm2 := hm
  unfold maxLen at hm
  have HC : Hid (bt s 0 = 32) := c1
  go_enter Try.func24, Try.ntmps24
  go_upto_block 6 with fail
  go_cut [10] (fun v wc => wc = w ∧ ∃ e : Nat, v = .int .i64 e ∧ 1 ≤ e ∧ e ≤ s.size ∧ (∀ j, 1 ≤ j → j < e → spB (bt s j) = false) ∧ (e = s.size ∨ spB (bt s e) = true))
  case first =>
    go_wp2_with fail
    go_loop [10] (fun v => ∃ e : Nat, v = .int .i64 e ∧ 1 ≤ e ∧ e ≤ s.size ∧ ∀ j, 1 ≤ j → j < e → spB (bt s j) = false) (fun v => s.size - (intOf v).toNat)
    case atStart => exact ⟨1, rfl, by omega, by omega, by omega⟩
    case round =>
      obtain ⟨e, rfl, he1, he2, hall⟩ := hrel
      have HA : Hid (∀ j, 1 ≤ j → j < e → spB (bt s j) = false) := hall
      clear hall
      by_cases hlt : e < s.size
      · have q0 := bt_nonneg s e
        have q1 := bt_le s e
        cases hsp : spB (bt s e)
        · have HN : Hid (∀ j, 1 ≤ j → j < e + 1 → spB (bt s j) = false) := by
            intro j hj1 hj
            by_cases e' : j < e
            · exact HA.out j hj1 e'
            · obtain rfl : e = j := by omega
              exact hsp
          go_wp2_with (go_at_call 34; refine (isSpace_any _ _ (by omega) (by omega)).mono ?_; rintro e w' ⟨rfl, rfl⟩)
          go_round
          case rel => exact ⟨e + 1, by go_num, by omega, by omega, HN.out⟩
          case measure => simp [intOf]; omega
        · have HS : Hid (spB (bt s e) = true) := hsp
          go_wp2_with (go_at_call 34; refine (isSpace_any _ _ (by omega) (by omega)).mono ?_; rintro e w' ⟨rfl, rfl⟩)
          go_meet
          case rel => exact ⟨rfl, e, rfl, he1, he2, HA.out, .inr HS.out⟩
      · go_wp2_with fail
        go_meet
        case rel => exact ⟨rfl, e, rfl, he1, he2, HA.out, .inl (by omega)⟩
  case rest =>
    obtain ⟨rfl, e, rfl, he1, he2, hall, hend⟩ := hcut
    have HA : Hid (∀ j, 1 ≤ j → j < e → spB (bt s j) = false) := hall
    have HEN : Hid (e = s.size ∨ spB (bt s e) = true) := hend
    clear hall hend
    have htm : (s.extract e s.size).size ≤ maxLen := by simp; omega
    have hnm : (s.extract 1 e).size = e - 1 := by simp; omega
    have HOK := fun u (hu : TrimOf (s.extract e s.size) u) => trim_ok (s := s) (p := e) (by simp; omega) (fun j => bt_ext s e j) hu
    by_cases e1 : e = 1
    · subst e1
      have hne : (s.extract 1 1).toList.isEmpty = true := by rw [isEmpty_dec, hnm]; rfl
      go_wp2_with (go_at_call 36; refine (trimLeft_any _ _ htm).mono ?_; rintro e w' ⟨⟨u, rfl, hu⟩, hw'⟩; rw [hw']; clear hw')
      go_ret2
      refine ⟨⟨0, u.toList.isEmpty, rfl, .inr (.inr (.inr (.inl ⟨h, HC.out, rfl, 1, by omega, he2, HA.out, HEN.out, ?_⟩)))⟩, 0, rfl⟩
      rw [HOK u hu]
      exact ⟨fun h => ⟨.inl rfl, h⟩, fun h => h.2⟩
    · have hne : (s.extract 1 e).toList.isEmpty = false := by rw [isEmpty_dec, hnm]; simp; omega
      have HX : Hid (∀ j, j < e - 1 → bt (s.extract 1 e) j = bt s (1 + j)) := fun j hj => bt_mid s 1 e j (by omega) he2
      have HN1 : Hid (e ≠ 1) := e1
      clear e1
      go_wp2_with fail
      refine (lowerIs_any _ _ _ (by rw [hnm]; omega) (by decide)).mono ?_
      rintro er w1 ⟨⟨b, rfl, hlow⟩, n1, hw1⟩
      subst hw1
      have HL : Hid (b = true ↔ e = 4 ∧ bits .or .u8 (bt s 1) 32 = 117 ∧ bits .or .u8 (bt s 2) 32 = 116 ∧ bits .or .u8 (bt s 3) 32 = 99) := by
        refine hlow.trans ?_
        rw [hnm]
        constructor
        · rintro ⟨h1, h2⟩
          have h1' : e - 1 = 3 := h1
          have hx := HX.out
          have g0 := h2 0 (by omega)
          have g1 := h2 1 (by omega)
          have g2 := h2 2 (by omega)
          rw [hx 0 (by omega)] at g0
          rw [hx 1 (by omega)] at g1
          rw [hx 2 (by omega)] at g2
          exact ⟨by omega, g0, g1, g2⟩
        · rintro ⟨h1, g0, g1, g2⟩
          have hx := HX.out
          refine ⟨by rw [h1]; rfl, fun j hj => ?_⟩
          rw [hx j hj]
          rcases (show j = 0 ∨ j = 1 ∨ j = 2 by omega) with rfl | rfl | rfl
          · exact g0
          · exact g1
          · exact g2
      cases b
      · have HL' : Hid (¬ (e = 4 ∧ bits .or .u8 (bt s 1) 32 = 117 ∧ bits .or .u8 (bt s 2) 32 = 116 ∧ bits .or .u8 (bt s 3) 32 = 99)) := fun h => by have := HL.out.2 h; cases this
        clear hlow HL
        go_wp2_with fail
        go_ret2
        refine ⟨⟨0, false, rfl, .inr (.inr (.inr (.inl ⟨h, HC.out, rfl, e, he1, he2, HA.out, HEN.out, ?_⟩)))⟩, _, rfl⟩
        constructor
        · intro h; cases h
        · rintro ⟨h1 | h1, _⟩
          · exact (HN1.out h1).elim
          · exact (HL'.out h1).elim
      · have HL' : Hid (e = 4 ∧ bits .or .u8 (bt s 1) 32 = 117 ∧ bits .or .u8 (bt s 2) 32 = 116 ∧ bits .or .u8 (bt s 3) 32 = 99) := HL.out.1 rfl
        clear hlow HL
        go_wp2_with (go_at_call 36; refine (trimLeft_any _ _ htm).mono ?_; rintro e w' ⟨⟨u, rfl, hu⟩, hw'⟩; rw [hw']; clear hw')
        go_ret2
        refine ⟨⟨0, u.toList.isEmpty, rfl, .inr (.inr (.inr (.inl ⟨h, HC.out, rfl, e, he1, he2, HA.out, HEN.out, ?_⟩)))⟩, _, rfl⟩
        rw [HOK u hu]
        exact ⟨fun h => ⟨.inr HL'.out, h⟩, fun h => h.2⟩

theorem zone_any (s : ByteArray) (w : World) (hm : s.size ≤ maxLen) :
    Calls Try.prog 24 #[.string s] w fun e w' => RetIB (ZS (bt s) s.size) e ∧ ∃ n, w' = w.drewN n := by
  by_cases h : s.size = 0
  · exact zone_none s w hm h
  by_cases c1 : bt s 0 = 90
  · exact zone_Z s w hm (by omega) c1
  by_cases c2 : bt s 0 = 43
  · exact zone_plus s w hm (by omega) c2
  by_cases c3 : bt s 0 = 45
  · exact zone_minus s w hm (by omega) c3
  by_cases c4 : bt s 0 = 32
  · exact zone_space s w hm (by omega) c4
  exact zone_other s w hm (by omega) c1 c2 c3 c4

theorem ZZzone_any (s : ByteArray) (w : World) (hm : s.size ≤ maxLen) :
    Calls Try.prog 10 #[.string s] w fun e w' => RetIB (ZS (bt s) s.size) e ∧ ∃ n, w' = w.drewN n := by
  go_enter Try.func10, Try.ntmps10
  go_wp2_with fail
  refine (zone_any _ _ hm).mono ?_
  rintro e w' ⟨⟨n, b, rfl, hz⟩, m, hw⟩
  subst hw
  go_wp2_with fail
  go_ret2
  exact ⟨⟨n, b, rfl, hz⟩, m, rfl⟩

end Go.Proofs.Qxb6603772a.Zn
