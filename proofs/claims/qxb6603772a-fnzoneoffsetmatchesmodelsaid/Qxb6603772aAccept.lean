/- The walk of b1ZoneAccepts. -/
import Derived.Test.Qxb6603772aHead
import Derived.Test.Qxb6603772aWritten
namespace Go.Proofs.Qxb6603772a.Zn
set_option linter.unusedVariables false
set_option linter.unusedSimpArgs false
open Go.ChangeShapes Go.WideShapes Go.ChangeAt Go.RowKit Go.PlainAid
open Go.Proofs.Qxb6603772a.Bs Go.Proofs.Qxb6603772a.Wk

/-- The text without its trailing white space is m long. -/
def Trim (B : Nat → Int) (n m : Nat) : Prop := m ≤ n ∧ Wh B n m ∧ (m = 0 ∨ spB (B (m - 1)) = false)

/-- t is the first m bytes of s. -/
def Pfx (s t : ByteArray) (m : Nat) : Prop := t.size = m ∧ m ≤ s.size ∧ ∀ i, i < m → bt t i = bt s i

/-- The closed list of shapes, of the text's first m bytes. -/
def Acc (B : Nat → Int) (m : Nat) : Prop :=
  (m = 1 ∧ B 0 = 90) ∨
  (m = 3 ∧ (B 0 = 43 ∨ B 0 = 45) ∧ digB (B 1) = true ∧ digB (B 2) = true) ∨
  (m = 4 ∧ B 0 = 32 ∧ (B 1 = 117 ∨ B 1 = 85) ∧ (B 2 = 116 ∨ B 2 = 84) ∧ (B 3 = 99 ∨ B 3 = 67)) ∨
  (m = 5 ∧ (B 0 = 43 ∨ B 0 = 45) ∧ digB (B 1) = true ∧ digB (B 2) = true ∧ digB (B 3) = true ∧ digB (B 4) = true) ∨
  (m = 6 ∧ (B 0 = 43 ∨ B 0 = 45) ∧ digB (B 1) = true ∧ digB (B 2) = true ∧ B 3 = 58 ∧ digB (B 4) = true ∧ digB (B 5) = true) ∨
  (m = 9 ∧ (B 0 = 43 ∨ B 0 = 45) ∧ digB (B 1) = true ∧ digB (B 2) = true ∧ B 3 = 58 ∧ digB (B 4) = true ∧ digB (B 5) = true ∧ B 6 = 58 ∧ digB (B 7) = true ∧ digB (B 8) = true)

/-- What b1ZoneAccepts answers for a text that is not empty. -/
def AccOf (s : ByteArray) (b : Bool) : Prop :=
  ∃ m t, Trim (bt s) s.size m ∧ Pfx s t m ∧ ((m = 0 ∧ (b = true ↔ bt s 0 = 32)) ∨ (0 < m ∧ (b = true ↔ Acc (bt t) m)))

theorem digAll4 {B : Nat → Int} {i : Nat} {b : Bool} (h : DigAll B i 4 b) : b = true ↔ digB (B i) = true ∧ digB (B (i + 1)) = true ∧ digB (B (i + 2)) = true ∧ digB (B (i + 3)) = true := by
  refine h.trans ⟨fun h => ⟨h 0 (by omega), h 1 (by omega), h 2 (by omega), h 3 (by omega)⟩, fun h j hj => ?_⟩
  rcases (show j = 0 ∨ j = 1 ∨ j = 2 ∨ j = 3 by omega) with rfl | rfl | rfl | rfl
  · exact h.1
  · exact h.2.1
  · exact h.2.2.1
  · exact h.2.2.2


theorem acc1 (B : Nat → Int) : Acc B 1 ↔ B 0 = 90 := by simp [Acc]
theorem acc3 (B : Nat → Int) : Acc B 3 ↔ (B 0 = 43 ∨ B 0 = 45) ∧ digB (B 1) = true ∧ digB (B 2) = true := by simp [Acc]
theorem acc4 (B : Nat → Int) : Acc B 4 ↔ B 0 = 32 ∧ (B 1 = 117 ∨ B 1 = 85) ∧ (B 2 = 116 ∨ B 2 = 84) ∧ (B 3 = 99 ∨ B 3 = 67) := by simp [Acc]
theorem acc5 (B : Nat → Int) : Acc B 5 ↔ (B 0 = 43 ∨ B 0 = 45) ∧ digB (B 1) = true ∧ digB (B 2) = true ∧ digB (B 3) = true ∧ digB (B 4) = true := by simp [Acc]
theorem acc6 (B : Nat → Int) : Acc B 6 ↔ (B 0 = 43 ∨ B 0 = 45) ∧ (digB (B 1) = true ∧ digB (B 2) = true) ∧ B 3 = 58 ∧ (digB (B 4) = true ∧ digB (B 5) = true) := by simp [Acc, and_assoc]
theorem acc9 (B : Nat → Int) : Acc B 9 ↔ (B 0 = 43 ∨ B 0 = 45) ∧ (digB (B 1) = true ∧ digB (B 2) = true) ∧ B 3 = 58 ∧ (digB (B 4) = true ∧ digB (B 5) = true) ∧ B 6 = 58 ∧ (digB (B 7) = true ∧ digB (B 8) = true) := by simp [Acc, and_assoc]
theorem accX (B : Nat → Int) (m : Nat) (h1 : m ≠ 1) (h3 : m ≠ 3) (h4 : m ≠ 4) (h5 : m ≠ 5) (h6 : m ≠ 6) (h9 : m ≠ 9) : ¬ Acc B m := by
  unfold Acc
  omega

theorem no_iff {p : Prop} (h : ¬ p) : (false = true ↔ p) := ⟨fun e => absurd e (by decide), fun h' => (h h').elim⟩

set_option maxHeartbeats 2000000 in
theorem acc_pos (s : ByteArray) (w : World) (hm : s.size ≤ maxLen) (h : 0 < s.size) :
    Calls Try.prog 12 #[.string s] w fun e w' => RetB (AccOf s) e ∧ w' = w := by
  have hb := get_bt s
  have hem : s.toList.isEmpty = false := by rw [isEmpty_dec]; simp; intro e; rw [e] at h; simp at h
  have hm2 := hm
  unfold maxLen at hm2
  go_enter Try.func12, Try.ntmps12
  go_upto_block 0 with fail
  go_cut [3] (fun v wc => wc = w ∧ ∃ (t : ByteArray) (m : Nat), v = .string t ∧ Pfx s t m ∧ Trim (bt s) s.size m)
  case first =>
    go_wp2_with fail
    go_loop [3] (fun v => ∃ (t : ByteArray) (m : Nat), v = .string t ∧ Pfx s t m ∧ Wh (bt s) s.size m) (fun v => strLen v)
    case atStart => exact ⟨s, s.size, rfl, ⟨rfl, Nat.le_refl _, fun _ _ => rfl⟩, wh_end _ _⟩
    case round =>
      obtain ⟨t, m, rfl, hp, hw⟩ := hrel
      have HP : Hid (Pfx s t m) := hp
      have HW : Hid (Wh (bt s) s.size m) := hw
      have hts : t.size ≤ s.size := by have := hp.1; have := hp.2.1; omega
      clear hp hw
      have htb := get_bt t
      by_cases hz : t.size = 0
      · have hem2 : t.toList.isEmpty = true := by rw [isEmpty_dec]; simpa using hz
        have HT : Hid (Trim (bt s) s.size m) := ⟨HP.out.2.1, HW.out, .inl (by have := HP.out.1; omega)⟩
        clear hz
        go_wp2_with fail
        go_meet
        case rel => exact ⟨rfl, t, m, rfl, HP.out, HT.out⟩
      · have hem2 : t.toList.isEmpty = false := by rw [isEmpty_dec]; simpa using hz
        have hp : 0 < t.size := by omega
        have q0 := bt_nonneg t (t.size - 1)
        have q1 := bt_le t (t.size - 1)
        cases hsp : spB (bt t (t.size - 1))
        · have HT : Hid (Trim (bt s) s.size m) := by
            refine ⟨HP.out.2.1, HW.out, .inr ?_⟩
            have h1 := HP.out.1
            rw [← HP.out.2.2 (m - 1) (by omega), ← h1]
            exact hsp
          clear hz
          go_wp2_with (go_at_call 27; refine (white_any _ _ (by omega) (by omega)).mono ?_; rintro e w' ⟨rfl, rfl⟩)
          go_meet
          case rel => exact ⟨rfl, t, m, rfl, HP.out, HT.out⟩
        · have HN : Hid (Wh (bt s) s.size (m - 1)) := by
            intro j h1 h2
            by_cases e : m ≤ j
            · exact HW.out j e h2
            · have h3 := HP.out.1
              obtain rfl : m - 1 = j := by omega
              rw [← HP.out.2.2 (m - 1) (by omega), ← h3]
              exact hsp
          have HQ : Hid (Pfx s (t.extract 0 (t.size - 1)) (m - 1)) := by
            have h3 := HP.out.1
            have h4 := HP.out.2.1
            refine ⟨by simp; omega, by omega, fun i hi => ?_⟩
            rw [bt_mid _ _ _ _ (by omega) (by omega), Nat.zero_add]
            exact HP.out.2.2 i (by omega)
          clear hz
          go_wp2_with (go_at_call 27; refine (white_any _ _ (by omega) (by omega)).mono ?_; rintro e w' ⟨rfl, rfl⟩)
          go_round
          case rel => exact ⟨t.extract 0 (t.size - 1), m - 1, rfl, HQ.out, HN.out⟩
          case measure => simp [strLen]; omega
  case rest =>
    obtain ⟨rfl, t, m, rfl, hp, ht⟩ := hcut
    have HP : Hid (Pfx s t m) := hp
    have HT : Hid (Trim (bt s) s.size m) := ht
    obtain rfl : t.size = m := hp.1
    have hts : t.size ≤ s.size := hp.2.1
    clear hp ht
    have htb := get_bt t
    have htm : t.size ≤ maxLen := by omega
    by_cases z0 : t.size = 0
    · have hem2 : t.toList.isEmpty = true := by rw [isEmpty_dec]; simpa using z0
      by_cases c0 : bt s 0 = 32
      · have c0' : (bt s 0 == 32) = true := by simpa using c0
        have HC0 : Hid (bt s 0 = 32) := c0
        clear c0
        go_wp2_with fail
        go_ret
        exact ⟨⟨true, rfl, t.size, t, HT.out, HP.out, .inl ⟨z0, ⟨fun _ => HC0.out, fun _ => rfl⟩⟩⟩, rfl⟩
      · have c0' : (bt s 0 == 32) = false := by simpa using c0
        have HC0 : Hid (¬ bt s 0 = 32) := c0
        clear c0
        go_wp2_with fail
        go_ret
        exact ⟨⟨false, rfl, t.size, t, HT.out, HP.out, .inl ⟨z0, no_iff HC0.out⟩⟩, rfl⟩
    have hem2 : t.toList.isEmpty = false := by rw [isEmpty_dec]; simpa using z0
    have hpos : 0 < t.size := by omega
    clear z0
    by_cases b43 : bt t 0 = 43
    · have e43 : (bt t 0 == 43) = true := by simpa using b43
      have HB0 : Hid (bt t 0 = 43) := b43
      have HS : Hid (bt t 0 = 43 ∨ bt t 0 = 45) := .inl b43
      clear b43
      by_cases z1 : t.size = 1
      · have hz := z1
        have c0' : (bt t 0 == 90) = false := by rw [HB0.out]; rfl
        go_wp2_with fail
        go_ret
        exact ⟨⟨false, rfl, t.size, t, HT.out, HP.out, .inr ⟨by omega, by rw [hz, acc1, HB0.out]; exact no_iff (by omega)⟩⟩, rfl⟩
      by_cases z3 : t.size = 3
      · have hz := z3
        have Ap : Hid (∀ wx, Calls Try.prog 26 #[.string t, .int .i64 1, .int .i64 2] wx fun e w' => RetB (DigAll (bt t) 1 2) e ∧ w' = wx) := fun wx => digitsAt_any t 1 2 wx htm (by omega)
        go_wp2_with fail
        refine (Ap.out _).mono ?_
        rintro e wap ⟨⟨bp, rfl, hdap⟩, hwap⟩
        rw [hwap]
        clear hwap Ap
        have Dp := digAll2 hdap
        have HDp : Hid (bp = true ↔ digB (bt t 1) = true ∧ digB (bt t 2) = true) := Dp
        clear hdap Dp
        go_wp2_with fail
        go_ret
        exact ⟨⟨bp, rfl, t.size, t, HT.out, HP.out, .inr ⟨by omega, by rw [hz, acc3]; exact ⟨fun hb => ⟨HS.out, HDp.out.1 hb⟩, fun hh => HDp.out.2 hh.2⟩⟩⟩, rfl⟩
      by_cases z5 : t.size = 5
      · have hz := z5
        have Ap : Hid (∀ wx, Calls Try.prog 26 #[.string t, .int .i64 1, .int .i64 4] wx fun e w' => RetB (DigAll (bt t) 1 4) e ∧ w' = wx) := fun wx => digitsAt_any t 1 4 wx htm (by omega)
        go_wp2_with fail
        refine (Ap.out _).mono ?_
        rintro e wap ⟨⟨bp, rfl, hdap⟩, hwap⟩
        rw [hwap]
        clear hwap Ap
        have Dp := digAll4 hdap
        have HDp : Hid (bp = true ↔ digB (bt t 1) = true ∧ digB (bt t 2) = true ∧ digB (bt t 3) = true ∧ digB (bt t 4) = true) := Dp
        clear hdap Dp
        go_wp2_with fail
        go_ret
        exact ⟨⟨bp, rfl, t.size, t, HT.out, HP.out, .inr ⟨by omega, by rw [hz, acc5]; exact ⟨fun hb => ⟨HS.out, HDp.out.1 hb⟩, fun hh => HDp.out.2 hh.2⟩⟩⟩, rfl⟩
      by_cases z6 : t.size = 6
      · have hz := z6
        have Ap : Hid (∀ wx, Calls Try.prog 26 #[.string t, .int .i64 1, .int .i64 2] wx fun e w' => RetB (DigAll (bt t) 1 2) e ∧ w' = wx) := fun wx => digitsAt_any t 1 2 wx htm (by omega)
        go_wp2_with fail
        refine (Ap.out _).mono ?_
        rintro e wap ⟨⟨bp, rfl, hdap⟩, hwap⟩
        rw [hwap]
        clear hwap Ap
        have Dp := digAll2 hdap
        have HDp : Hid (bp = true ↔ digB (bt t 1) = true ∧ digB (bt t 2) = true) := Dp
        clear hdap Dp
        cases bp
        · have HN : Hid (¬ Acc (bt t) t.size) := by
            rw [hz, acc6]
            intro hh
            have := HDp.out.2 hh.2.1
            cases this
          go_wp2_with fail
          go_ret
          exact ⟨⟨false, rfl, t.size, t, HT.out, HP.out, .inr ⟨by omega, by exact no_iff HN.out⟩⟩, rfl⟩
        · have HYp : Hid (digB (bt t 1) = true ∧ digB (bt t 2) = true) := HDp.out.1 rfl
          clear HDp
          by_cases c3 : bt t 3 = 58
          case neg =>
            have HN : Hid (¬ Acc (bt t) t.size) := by
              rw [hz, acc6]
              intro hh
              exact c3 hh.2.2.1
            have c3' : (bt t 3 == 58) = false := by simpa using c3
            clear c3
            go_wp2_with fail
            go_ret
            exact ⟨⟨false, rfl, t.size, t, HT.out, HP.out, .inr ⟨by omega, by exact no_iff HN.out⟩⟩, rfl⟩
          case pos =>
            have c3' : (bt t 3 == 58) = true := by simpa using c3
            have HC3 : Hid (bt t 3 = 58) := c3
            clear c3
            have Aq : Hid (∀ wx, Calls Try.prog 26 #[.string t, .int .i64 4, .int .i64 2] wx fun e w' => RetB (DigAll (bt t) 4 2) e ∧ w' = wx) := fun wx => digitsAt_any t 4 2 wx htm (by omega)
            go_wp2_with fail
            refine (Aq.out _).mono ?_
            rintro e waq ⟨⟨bq, rfl, hdaq⟩, hwaq⟩
            rw [hwaq]
            clear hwaq Aq
            have Dq := digAll2 hdaq
            have HDq : Hid (bq = true ↔ digB (bt t 4) = true ∧ digB (bt t 5) = true) := Dq
            clear hdaq Dq
            go_wp2_with fail
            go_ret
            exact ⟨⟨bq, rfl, t.size, t, HT.out, HP.out, .inr ⟨by omega, by rw [hz, acc6]; exact ⟨fun hb => ⟨HS.out, HYp.out, HC3.out, HDq.out.1 hb⟩, fun hh => HDq.out.2 hh.2.2.2⟩⟩⟩, rfl⟩
      by_cases z9 : t.size = 9
      · have hz := z9
        have Ap : Hid (∀ wx, Calls Try.prog 26 #[.string t, .int .i64 1, .int .i64 2] wx fun e w' => RetB (DigAll (bt t) 1 2) e ∧ w' = wx) := fun wx => digitsAt_any t 1 2 wx htm (by omega)
        go_wp2_with fail
        refine (Ap.out _).mono ?_
        rintro e wap ⟨⟨bp, rfl, hdap⟩, hwap⟩
        rw [hwap]
        clear hwap Ap
        have Dp := digAll2 hdap
        have HDp : Hid (bp = true ↔ digB (bt t 1) = true ∧ digB (bt t 2) = true) := Dp
        clear hdap Dp
        cases bp
        · have HN : Hid (¬ Acc (bt t) t.size) := by
            rw [hz, acc9]
            intro hh
            have := HDp.out.2 hh.2.1
            cases this
          go_wp2_with fail
          go_ret
          exact ⟨⟨false, rfl, t.size, t, HT.out, HP.out, .inr ⟨by omega, by exact no_iff HN.out⟩⟩, rfl⟩
        · have HYp : Hid (digB (bt t 1) = true ∧ digB (bt t 2) = true) := HDp.out.1 rfl
          clear HDp
          by_cases c3 : bt t 3 = 58
          case neg =>
            have HN : Hid (¬ Acc (bt t) t.size) := by
              rw [hz, acc9]
              intro hh
              exact c3 hh.2.2.1
            have c3' : (bt t 3 == 58) = false := by simpa using c3
            clear c3
            go_wp2_with fail
            go_ret
            exact ⟨⟨false, rfl, t.size, t, HT.out, HP.out, .inr ⟨by omega, by exact no_iff HN.out⟩⟩, rfl⟩
          case pos =>
            have c3' : (bt t 3 == 58) = true := by simpa using c3
            have HC3 : Hid (bt t 3 = 58) := c3
            clear c3
            have Aq : Hid (∀ wx, Calls Try.prog 26 #[.string t, .int .i64 4, .int .i64 2] wx fun e w' => RetB (DigAll (bt t) 4 2) e ∧ w' = wx) := fun wx => digitsAt_any t 4 2 wx htm (by omega)
            go_wp2_with fail
            refine (Aq.out _).mono ?_
            rintro e waq ⟨⟨bq, rfl, hdaq⟩, hwaq⟩
            rw [hwaq]
            clear hwaq Aq
            have Dq := digAll2 hdaq
            have HDq : Hid (bq = true ↔ digB (bt t 4) = true ∧ digB (bt t 5) = true) := Dq
            clear hdaq Dq
            cases bq
            · have HN : Hid (¬ Acc (bt t) t.size) := by
                rw [hz, acc9]
                intro hh
                have := HDq.out.2 hh.2.2.2.1
                cases this
              go_wp2_with fail
              go_ret
              exact ⟨⟨false, rfl, t.size, t, HT.out, HP.out, .inr ⟨by omega, by exact no_iff HN.out⟩⟩, rfl⟩
            · have HYq : Hid (digB (bt t 4) = true ∧ digB (bt t 5) = true) := HDq.out.1 rfl
              clear HDq
              by_cases c6 : bt t 6 = 58
              case neg =>
                have HN : Hid (¬ Acc (bt t) t.size) := by
                  rw [hz, acc9]
                  intro hh
                  exact c6 hh.2.2.2.2.1
                have c6' : (bt t 6 == 58) = false := by simpa using c6
                clear c6
                go_wp2_with fail
                go_ret
                exact ⟨⟨false, rfl, t.size, t, HT.out, HP.out, .inr ⟨by omega, by exact no_iff HN.out⟩⟩, rfl⟩
              case pos =>
                have c6' : (bt t 6 == 58) = true := by simpa using c6
                have HC6 : Hid (bt t 6 = 58) := c6
                clear c6
                have Ar : Hid (∀ wx, Calls Try.prog 26 #[.string t, .int .i64 7, .int .i64 2] wx fun e w' => RetB (DigAll (bt t) 7 2) e ∧ w' = wx) := fun wx => digitsAt_any t 7 2 wx htm (by omega)
                go_wp2_with fail
                refine (Ar.out _).mono ?_
                rintro e war ⟨⟨br, rfl, hdar⟩, hwar⟩
                rw [hwar]
                clear hwar Ar
                have Dr := digAll2 hdar
                have HDr : Hid (br = true ↔ digB (bt t 7) = true ∧ digB (bt t 8) = true) := Dr
                clear hdar Dr
                go_wp2_with fail
                go_ret
                exact ⟨⟨br, rfl, t.size, t, HT.out, HP.out, .inr ⟨by omega, by rw [hz, acc9]; exact ⟨fun hb => ⟨HS.out, HYp.out, HC3.out, HYq.out, HC6.out, HDr.out.1 hb⟩, fun hh => HDr.out.2 hh.2.2.2.2.2⟩⟩⟩, rfl⟩
      by_cases z4 : t.size = 4
      · have hz := z4
        have c0' : (bt t 0 == 32) = false := by rw [HB0.out]; rfl
        go_wp2_with fail
        go_ret
        exact ⟨⟨false, rfl, t.size, t, HT.out, HP.out, .inr ⟨by omega, by rw [hz, acc4, HB0.out]; exact no_iff (by omega)⟩⟩, rfl⟩
      have HN : Hid (¬ Acc (bt t) t.size) := accX _ _ z1 z3 z4 z5 z6 z9
      have y0 : ((t.size : Int) == 0) = false := by rw [beq_eq_false_iff_ne]; omega
      have y1 : ((t.size : Int) == 1) = false := by rw [beq_eq_false_iff_ne]; omega
      have y3 : ((t.size : Int) == 3) = false := by rw [beq_eq_false_iff_ne]; omega
      have y4 : ((t.size : Int) == 4) = false := by rw [beq_eq_false_iff_ne]; omega
      have y5 : ((t.size : Int) == 5) = false := by rw [beq_eq_false_iff_ne]; omega
      have y6 : ((t.size : Int) == 6) = false := by rw [beq_eq_false_iff_ne]; omega
      have y9 : ((t.size : Int) == 9) = false := by rw [beq_eq_false_iff_ne]; omega
      clear z1 z3 z4 z5 z6 z9
      go_wp2_with fail
      go_ret
      exact ⟨⟨false, rfl, t.size, t, HT.out, HP.out, .inr ⟨by omega, by exact no_iff HN.out⟩⟩, rfl⟩
    · have e43 : (bt t 0 == 43) = false := by simpa using b43
      by_cases b45 : bt t 0 = 45
      · have e45 : (bt t 0 == 45) = true := by simpa using b45
        have HB0 : Hid (bt t 0 = 45) := b45
        have HS : Hid (bt t 0 = 43 ∨ bt t 0 = 45) := .inr b45
        clear b43 b45
        by_cases z1 : t.size = 1
        · have hz := z1
          have c0' : (bt t 0 == 90) = false := by rw [HB0.out]; rfl
          go_wp2_with fail
          go_ret
          exact ⟨⟨false, rfl, t.size, t, HT.out, HP.out, .inr ⟨by omega, by rw [hz, acc1, HB0.out]; exact no_iff (by omega)⟩⟩, rfl⟩
        by_cases z3 : t.size = 3
        · have hz := z3
          have Ap : Hid (∀ wx, Calls Try.prog 26 #[.string t, .int .i64 1, .int .i64 2] wx fun e w' => RetB (DigAll (bt t) 1 2) e ∧ w' = wx) := fun wx => digitsAt_any t 1 2 wx htm (by omega)
          go_wp2_with fail
          refine (Ap.out _).mono ?_
          rintro e wap ⟨⟨bp, rfl, hdap⟩, hwap⟩
          rw [hwap]
          clear hwap Ap
          have Dp := digAll2 hdap
          have HDp : Hid (bp = true ↔ digB (bt t 1) = true ∧ digB (bt t 2) = true) := Dp
          clear hdap Dp
          go_wp2_with fail
          go_ret
          exact ⟨⟨bp, rfl, t.size, t, HT.out, HP.out, .inr ⟨by omega, by rw [hz, acc3]; exact ⟨fun hb => ⟨HS.out, HDp.out.1 hb⟩, fun hh => HDp.out.2 hh.2⟩⟩⟩, rfl⟩
        by_cases z5 : t.size = 5
        · have hz := z5
          have Ap : Hid (∀ wx, Calls Try.prog 26 #[.string t, .int .i64 1, .int .i64 4] wx fun e w' => RetB (DigAll (bt t) 1 4) e ∧ w' = wx) := fun wx => digitsAt_any t 1 4 wx htm (by omega)
          go_wp2_with fail
          refine (Ap.out _).mono ?_
          rintro e wap ⟨⟨bp, rfl, hdap⟩, hwap⟩
          rw [hwap]
          clear hwap Ap
          have Dp := digAll4 hdap
          have HDp : Hid (bp = true ↔ digB (bt t 1) = true ∧ digB (bt t 2) = true ∧ digB (bt t 3) = true ∧ digB (bt t 4) = true) := Dp
          clear hdap Dp
          go_wp2_with fail
          go_ret
          exact ⟨⟨bp, rfl, t.size, t, HT.out, HP.out, .inr ⟨by omega, by rw [hz, acc5]; exact ⟨fun hb => ⟨HS.out, HDp.out.1 hb⟩, fun hh => HDp.out.2 hh.2⟩⟩⟩, rfl⟩
        by_cases z6 : t.size = 6
        · have hz := z6
          have Ap : Hid (∀ wx, Calls Try.prog 26 #[.string t, .int .i64 1, .int .i64 2] wx fun e w' => RetB (DigAll (bt t) 1 2) e ∧ w' = wx) := fun wx => digitsAt_any t 1 2 wx htm (by omega)
          go_wp2_with fail
          refine (Ap.out _).mono ?_
          rintro e wap ⟨⟨bp, rfl, hdap⟩, hwap⟩
          rw [hwap]
          clear hwap Ap
          have Dp := digAll2 hdap
          have HDp : Hid (bp = true ↔ digB (bt t 1) = true ∧ digB (bt t 2) = true) := Dp
          clear hdap Dp
          cases bp
          · have HN : Hid (¬ Acc (bt t) t.size) := by
              rw [hz, acc6]
              intro hh
              have := HDp.out.2 hh.2.1
              cases this
            go_wp2_with fail
            go_ret
            exact ⟨⟨false, rfl, t.size, t, HT.out, HP.out, .inr ⟨by omega, by exact no_iff HN.out⟩⟩, rfl⟩
          · have HYp : Hid (digB (bt t 1) = true ∧ digB (bt t 2) = true) := HDp.out.1 rfl
            clear HDp
            by_cases c3 : bt t 3 = 58
            case neg =>
              have HN : Hid (¬ Acc (bt t) t.size) := by
                rw [hz, acc6]
                intro hh
                exact c3 hh.2.2.1
              have c3' : (bt t 3 == 58) = false := by simpa using c3
              clear c3
              go_wp2_with fail
              go_ret
              exact ⟨⟨false, rfl, t.size, t, HT.out, HP.out, .inr ⟨by omega, by exact no_iff HN.out⟩⟩, rfl⟩
            case pos =>
              have c3' : (bt t 3 == 58) = true := by simpa using c3
              have HC3 : Hid (bt t 3 = 58) := c3
              clear c3
              have Aq : Hid (∀ wx, Calls Try.prog 26 #[.string t, .int .i64 4, .int .i64 2] wx fun e w' => RetB (DigAll (bt t) 4 2) e ∧ w' = wx) := fun wx => digitsAt_any t 4 2 wx htm (by omega)
              go_wp2_with fail
              refine (Aq.out _).mono ?_
              rintro e waq ⟨⟨bq, rfl, hdaq⟩, hwaq⟩
              rw [hwaq]
              clear hwaq Aq
              have Dq := digAll2 hdaq
              have HDq : Hid (bq = true ↔ digB (bt t 4) = true ∧ digB (bt t 5) = true) := Dq
              clear hdaq Dq
              go_wp2_with fail
              go_ret
              exact ⟨⟨bq, rfl, t.size, t, HT.out, HP.out, .inr ⟨by omega, by rw [hz, acc6]; exact ⟨fun hb => ⟨HS.out, HYp.out, HC3.out, HDq.out.1 hb⟩, fun hh => HDq.out.2 hh.2.2.2⟩⟩⟩, rfl⟩
        by_cases z9 : t.size = 9
        · have hz := z9
          have Ap : Hid (∀ wx, Calls Try.prog 26 #[.string t, .int .i64 1, .int .i64 2] wx fun e w' => RetB (DigAll (bt t) 1 2) e ∧ w' = wx) := fun wx => digitsAt_any t 1 2 wx htm (by omega)
          go_wp2_with fail
          refine (Ap.out _).mono ?_
          rintro e wap ⟨⟨bp, rfl, hdap⟩, hwap⟩
          rw [hwap]
          clear hwap Ap
          have Dp := digAll2 hdap
          have HDp : Hid (bp = true ↔ digB (bt t 1) = true ∧ digB (bt t 2) = true) := Dp
          clear hdap Dp
          cases bp
          · have HN : Hid (¬ Acc (bt t) t.size) := by
              rw [hz, acc9]
              intro hh
              have := HDp.out.2 hh.2.1
              cases this
            go_wp2_with fail
            go_ret
            exact ⟨⟨false, rfl, t.size, t, HT.out, HP.out, .inr ⟨by omega, by exact no_iff HN.out⟩⟩, rfl⟩
          · have HYp : Hid (digB (bt t 1) = true ∧ digB (bt t 2) = true) := HDp.out.1 rfl
            clear HDp
            by_cases c3 : bt t 3 = 58
            case neg =>
              have HN : Hid (¬ Acc (bt t) t.size) := by
                rw [hz, acc9]
                intro hh
                exact c3 hh.2.2.1
              have c3' : (bt t 3 == 58) = false := by simpa using c3
              clear c3
              go_wp2_with fail
              go_ret
              exact ⟨⟨false, rfl, t.size, t, HT.out, HP.out, .inr ⟨by omega, by exact no_iff HN.out⟩⟩, rfl⟩
            case pos =>
              have c3' : (bt t 3 == 58) = true := by simpa using c3
              have HC3 : Hid (bt t 3 = 58) := c3
              clear c3
              have Aq : Hid (∀ wx, Calls Try.prog 26 #[.string t, .int .i64 4, .int .i64 2] wx fun e w' => RetB (DigAll (bt t) 4 2) e ∧ w' = wx) := fun wx => digitsAt_any t 4 2 wx htm (by omega)
              go_wp2_with fail
              refine (Aq.out _).mono ?_
              rintro e waq ⟨⟨bq, rfl, hdaq⟩, hwaq⟩
              rw [hwaq]
              clear hwaq Aq
              have Dq := digAll2 hdaq
              have HDq : Hid (bq = true ↔ digB (bt t 4) = true ∧ digB (bt t 5) = true) := Dq
              clear hdaq Dq
              cases bq
              · have HN : Hid (¬ Acc (bt t) t.size) := by
                  rw [hz, acc9]
                  intro hh
                  have := HDq.out.2 hh.2.2.2.1
                  cases this
                go_wp2_with fail
                go_ret
                exact ⟨⟨false, rfl, t.size, t, HT.out, HP.out, .inr ⟨by omega, by exact no_iff HN.out⟩⟩, rfl⟩
              · have HYq : Hid (digB (bt t 4) = true ∧ digB (bt t 5) = true) := HDq.out.1 rfl
                clear HDq
                by_cases c6 : bt t 6 = 58
                case neg =>
                  have HN : Hid (¬ Acc (bt t) t.size) := by
                    rw [hz, acc9]
                    intro hh
                    exact c6 hh.2.2.2.2.1
                  have c6' : (bt t 6 == 58) = false := by simpa using c6
                  clear c6
                  go_wp2_with fail
                  go_ret
                  exact ⟨⟨false, rfl, t.size, t, HT.out, HP.out, .inr ⟨by omega, by exact no_iff HN.out⟩⟩, rfl⟩
                case pos =>
                  have c6' : (bt t 6 == 58) = true := by simpa using c6
                  have HC6 : Hid (bt t 6 = 58) := c6
                  clear c6
                  have Ar : Hid (∀ wx, Calls Try.prog 26 #[.string t, .int .i64 7, .int .i64 2] wx fun e w' => RetB (DigAll (bt t) 7 2) e ∧ w' = wx) := fun wx => digitsAt_any t 7 2 wx htm (by omega)
                  go_wp2_with fail
                  refine (Ar.out _).mono ?_
                  rintro e war ⟨⟨br, rfl, hdar⟩, hwar⟩
                  rw [hwar]
                  clear hwar Ar
                  have Dr := digAll2 hdar
                  have HDr : Hid (br = true ↔ digB (bt t 7) = true ∧ digB (bt t 8) = true) := Dr
                  clear hdar Dr
                  go_wp2_with fail
                  go_ret
                  exact ⟨⟨br, rfl, t.size, t, HT.out, HP.out, .inr ⟨by omega, by rw [hz, acc9]; exact ⟨fun hb => ⟨HS.out, HYp.out, HC3.out, HYq.out, HC6.out, HDr.out.1 hb⟩, fun hh => HDr.out.2 hh.2.2.2.2.2⟩⟩⟩, rfl⟩
        by_cases z4 : t.size = 4
        · have hz := z4
          have c0' : (bt t 0 == 32) = false := by rw [HB0.out]; rfl
          go_wp2_with fail
          go_ret
          exact ⟨⟨false, rfl, t.size, t, HT.out, HP.out, .inr ⟨by omega, by rw [hz, acc4, HB0.out]; exact no_iff (by omega)⟩⟩, rfl⟩
        have HN : Hid (¬ Acc (bt t) t.size) := accX _ _ z1 z3 z4 z5 z6 z9
        have y0 : ((t.size : Int) == 0) = false := by rw [beq_eq_false_iff_ne]; omega
        have y1 : ((t.size : Int) == 1) = false := by rw [beq_eq_false_iff_ne]; omega
        have y3 : ((t.size : Int) == 3) = false := by rw [beq_eq_false_iff_ne]; omega
        have y4 : ((t.size : Int) == 4) = false := by rw [beq_eq_false_iff_ne]; omega
        have y5 : ((t.size : Int) == 5) = false := by rw [beq_eq_false_iff_ne]; omega
        have y6 : ((t.size : Int) == 6) = false := by rw [beq_eq_false_iff_ne]; omega
        have y9 : ((t.size : Int) == 9) = false := by rw [beq_eq_false_iff_ne]; omega
        clear z1 z3 z4 z5 z6 z9
        go_wp2_with fail
        go_ret
        exact ⟨⟨false, rfl, t.size, t, HT.out, HP.out, .inr ⟨by omega, by exact no_iff HN.out⟩⟩, rfl⟩
      · have e45 : (bt t 0 == 45) = false := by simpa using b45
        have HNS : Hid (¬ (bt t 0 = 43 ∨ bt t 0 = 45)) := by intro hh; omega
        clear b43 b45
        by_cases z1 : t.size = 1
        · have hz := z1
          by_cases c0 : bt t 0 = 90
          · have c0' : (bt t 0 == 90) = true := by simpa using c0
            have HC0 : Hid (bt t 0 = 90) := c0
            clear c0
            go_wp2_with fail
            go_ret
            exact ⟨⟨true, rfl, t.size, t, HT.out, HP.out, .inr ⟨by omega, by rw [hz, acc1]; exact ⟨fun _ => HC0.out, fun _ => rfl⟩⟩⟩, rfl⟩
          · have c0' : (bt t 0 == 90) = false := by simpa using c0
            have HC0 : Hid (¬ bt t 0 = 90) := c0
            clear c0
            go_wp2_with fail
            go_ret
            exact ⟨⟨false, rfl, t.size, t, HT.out, HP.out, .inr ⟨by omega, by rw [hz, acc1]; exact no_iff HC0.out⟩⟩, rfl⟩
        by_cases z3 : t.size = 3
        · have hz := z3
          go_wp2_with fail
          go_ret
          exact ⟨⟨false, rfl, t.size, t, HT.out, HP.out, .inr ⟨by omega, by rw [hz, acc3]; exact no_iff (fun hh => HNS.out hh.1)⟩⟩, rfl⟩
        by_cases z5 : t.size = 5
        · have hz := z5
          go_wp2_with fail
          go_ret
          exact ⟨⟨false, rfl, t.size, t, HT.out, HP.out, .inr ⟨by omega, by rw [hz, acc5]; exact no_iff (fun hh => HNS.out hh.1)⟩⟩, rfl⟩
        by_cases z6 : t.size = 6
        · have hz := z6
          go_wp2_with fail
          go_ret
          exact ⟨⟨false, rfl, t.size, t, HT.out, HP.out, .inr ⟨by omega, by rw [hz, acc6]; exact no_iff (fun hh => HNS.out hh.1)⟩⟩, rfl⟩
        by_cases z9 : t.size = 9
        · have hz := z9
          go_wp2_with fail
          go_ret
          exact ⟨⟨false, rfl, t.size, t, HT.out, HP.out, .inr ⟨by omega, by rw [hz, acc9]; exact no_iff (fun hh => HNS.out hh.1)⟩⟩, rfl⟩
        by_cases z4 : t.size = 4
        · have hz := z4
          by_cases d0 : bt t 0 = 32
          case pos =>
            have d0' : (bt t 0 == 32) = true := by simpa using d0
            have Hd0 : Hid (bt t 0 = 32) := d0
            clear d0
            by_cases d1 : bt t 1 = 117
            case pos =>
              have d1' : (bt t 1 == 117) = true := by simpa using d1
              have Hd1 : Hid (bt t 1 = 117) := d1
              clear d1
              have F1 : Hid (bt t 1 = 117 ∨ bt t 1 = 85) := .inl Hd1.out
              by_cases d2 : bt t 2 = 116
              case pos =>
                have d2' : (bt t 2 == 116) = true := by simpa using d2
                have Hd2 : Hid (bt t 2 = 116) := d2
                clear d2
                have F2 : Hid (bt t 2 = 116 ∨ bt t 2 = 84) := .inl Hd2.out
                by_cases d3 : bt t 3 = 99
                case pos =>
                  have d3' : (bt t 3 == 99) = true := by simpa using d3
                  have Hd3 : Hid (bt t 3 = 99) := d3
                  clear d3
                  have F3 : Hid (bt t 3 = 99 ∨ bt t 3 = 67) := .inl Hd3.out
                  go_wp2_with fail
                  go_ret
                  exact ⟨⟨true, rfl, t.size, t, HT.out, HP.out, .inr ⟨by omega, by rw [hz, acc4]; exact ⟨fun _ => ⟨Hd0.out, F1.out, F2.out, F3.out⟩, fun _ => rfl⟩⟩⟩, rfl⟩
                case neg =>
                  have d3' : (bt t 3 == 99) = false := by simpa using d3
                  have Hd3 : Hid (¬ bt t 3 = 99) := d3
                  clear d3
                  by_cases g3 : bt t 3 = 67
                  case pos =>
                    have g3' : (bt t 3 == 67) = true := by simpa using g3
                    have Hg3 : Hid (bt t 3 = 67) := g3
                    clear g3
                    have F3 : Hid (bt t 3 = 99 ∨ bt t 3 = 67) := .inr Hg3.out
                    go_wp2_with fail
                    go_ret
                    exact ⟨⟨true, rfl, t.size, t, HT.out, HP.out, .inr ⟨by omega, by rw [hz, acc4]; exact ⟨fun _ => ⟨Hd0.out, F1.out, F2.out, F3.out⟩, fun _ => rfl⟩⟩⟩, rfl⟩
                  case neg =>
                    have g3' : (bt t 3 == 67) = false := by simpa using g3
                    have Hg3 : Hid (¬ bt t 3 = 67) := g3
                    clear g3
                    go_wp2_with fail
                    go_ret
                    exact ⟨⟨false, rfl, t.size, t, HT.out, HP.out, .inr ⟨by omega, by rw [hz, acc4]; exact no_iff (fun hh => (hh.2.2.2).elim Hd3.out Hg3.out)⟩⟩, rfl⟩
              case neg =>
                have d2' : (bt t 2 == 116) = false := by simpa using d2
                have Hd2 : Hid (¬ bt t 2 = 116) := d2
                clear d2
                by_cases g2 : bt t 2 = 84
                case pos =>
                  have g2' : (bt t 2 == 84) = true := by simpa using g2
                  have Hg2 : Hid (bt t 2 = 84) := g2
                  clear g2
                  have F2 : Hid (bt t 2 = 116 ∨ bt t 2 = 84) := .inr Hg2.out
                  by_cases d3 : bt t 3 = 99
                  case pos =>
                    have d3' : (bt t 3 == 99) = true := by simpa using d3
                    have Hd3 : Hid (bt t 3 = 99) := d3
                    clear d3
                    have F3 : Hid (bt t 3 = 99 ∨ bt t 3 = 67) := .inl Hd3.out
                    go_wp2_with fail
                    go_ret
                    exact ⟨⟨true, rfl, t.size, t, HT.out, HP.out, .inr ⟨by omega, by rw [hz, acc4]; exact ⟨fun _ => ⟨Hd0.out, F1.out, F2.out, F3.out⟩, fun _ => rfl⟩⟩⟩, rfl⟩
                  case neg =>
                    have d3' : (bt t 3 == 99) = false := by simpa using d3
                    have Hd3 : Hid (¬ bt t 3 = 99) := d3
                    clear d3
                    by_cases g3 : bt t 3 = 67
                    case pos =>
                      have g3' : (bt t 3 == 67) = true := by simpa using g3
                      have Hg3 : Hid (bt t 3 = 67) := g3
                      clear g3
                      have F3 : Hid (bt t 3 = 99 ∨ bt t 3 = 67) := .inr Hg3.out
                      go_wp2_with fail
                      go_ret
                      exact ⟨⟨true, rfl, t.size, t, HT.out, HP.out, .inr ⟨by omega, by rw [hz, acc4]; exact ⟨fun _ => ⟨Hd0.out, F1.out, F2.out, F3.out⟩, fun _ => rfl⟩⟩⟩, rfl⟩
                    case neg =>
                      have g3' : (bt t 3 == 67) = false := by simpa using g3
                      have Hg3 : Hid (¬ bt t 3 = 67) := g3
                      clear g3
                      go_wp2_with fail
                      go_ret
                      exact ⟨⟨false, rfl, t.size, t, HT.out, HP.out, .inr ⟨by omega, by rw [hz, acc4]; exact no_iff (fun hh => (hh.2.2.2).elim Hd3.out Hg3.out)⟩⟩, rfl⟩
                case neg =>
                  have g2' : (bt t 2 == 84) = false := by simpa using g2
                  have Hg2 : Hid (¬ bt t 2 = 84) := g2
                  clear g2
                  go_wp2_with fail
                  go_ret
                  exact ⟨⟨false, rfl, t.size, t, HT.out, HP.out, .inr ⟨by omega, by rw [hz, acc4]; exact no_iff (fun hh => (hh.2.2.1).elim Hd2.out Hg2.out)⟩⟩, rfl⟩
            case neg =>
              have d1' : (bt t 1 == 117) = false := by simpa using d1
              have Hd1 : Hid (¬ bt t 1 = 117) := d1
              clear d1
              by_cases g1 : bt t 1 = 85
              case pos =>
                have g1' : (bt t 1 == 85) = true := by simpa using g1
                have Hg1 : Hid (bt t 1 = 85) := g1
                clear g1
                have F1 : Hid (bt t 1 = 117 ∨ bt t 1 = 85) := .inr Hg1.out
                by_cases d2 : bt t 2 = 116
                case pos =>
                  have d2' : (bt t 2 == 116) = true := by simpa using d2
                  have Hd2 : Hid (bt t 2 = 116) := d2
                  clear d2
                  have F2 : Hid (bt t 2 = 116 ∨ bt t 2 = 84) := .inl Hd2.out
                  by_cases d3 : bt t 3 = 99
                  case pos =>
                    have d3' : (bt t 3 == 99) = true := by simpa using d3
                    have Hd3 : Hid (bt t 3 = 99) := d3
                    clear d3
                    have F3 : Hid (bt t 3 = 99 ∨ bt t 3 = 67) := .inl Hd3.out
                    go_wp2_with fail
                    go_ret
                    exact ⟨⟨true, rfl, t.size, t, HT.out, HP.out, .inr ⟨by omega, by rw [hz, acc4]; exact ⟨fun _ => ⟨Hd0.out, F1.out, F2.out, F3.out⟩, fun _ => rfl⟩⟩⟩, rfl⟩
                  case neg =>
                    have d3' : (bt t 3 == 99) = false := by simpa using d3
                    have Hd3 : Hid (¬ bt t 3 = 99) := d3
                    clear d3
                    by_cases g3 : bt t 3 = 67
                    case pos =>
                      have g3' : (bt t 3 == 67) = true := by simpa using g3
                      have Hg3 : Hid (bt t 3 = 67) := g3
                      clear g3
                      have F3 : Hid (bt t 3 = 99 ∨ bt t 3 = 67) := .inr Hg3.out
                      go_wp2_with fail
                      go_ret
                      exact ⟨⟨true, rfl, t.size, t, HT.out, HP.out, .inr ⟨by omega, by rw [hz, acc4]; exact ⟨fun _ => ⟨Hd0.out, F1.out, F2.out, F3.out⟩, fun _ => rfl⟩⟩⟩, rfl⟩
                    case neg =>
                      have g3' : (bt t 3 == 67) = false := by simpa using g3
                      have Hg3 : Hid (¬ bt t 3 = 67) := g3
                      clear g3
                      go_wp2_with fail
                      go_ret
                      exact ⟨⟨false, rfl, t.size, t, HT.out, HP.out, .inr ⟨by omega, by rw [hz, acc4]; exact no_iff (fun hh => (hh.2.2.2).elim Hd3.out Hg3.out)⟩⟩, rfl⟩
                case neg =>
                  have d2' : (bt t 2 == 116) = false := by simpa using d2
                  have Hd2 : Hid (¬ bt t 2 = 116) := d2
                  clear d2
                  by_cases g2 : bt t 2 = 84
                  case pos =>
                    have g2' : (bt t 2 == 84) = true := by simpa using g2
                    have Hg2 : Hid (bt t 2 = 84) := g2
                    clear g2
                    have F2 : Hid (bt t 2 = 116 ∨ bt t 2 = 84) := .inr Hg2.out
                    by_cases d3 : bt t 3 = 99
                    case pos =>
                      have d3' : (bt t 3 == 99) = true := by simpa using d3
                      have Hd3 : Hid (bt t 3 = 99) := d3
                      clear d3
                      have F3 : Hid (bt t 3 = 99 ∨ bt t 3 = 67) := .inl Hd3.out
                      go_wp2_with fail
                      go_ret
                      exact ⟨⟨true, rfl, t.size, t, HT.out, HP.out, .inr ⟨by omega, by rw [hz, acc4]; exact ⟨fun _ => ⟨Hd0.out, F1.out, F2.out, F3.out⟩, fun _ => rfl⟩⟩⟩, rfl⟩
                    case neg =>
                      have d3' : (bt t 3 == 99) = false := by simpa using d3
                      have Hd3 : Hid (¬ bt t 3 = 99) := d3
                      clear d3
                      by_cases g3 : bt t 3 = 67
                      case pos =>
                        have g3' : (bt t 3 == 67) = true := by simpa using g3
                        have Hg3 : Hid (bt t 3 = 67) := g3
                        clear g3
                        have F3 : Hid (bt t 3 = 99 ∨ bt t 3 = 67) := .inr Hg3.out
                        go_wp2_with fail
                        go_ret
                        exact ⟨⟨true, rfl, t.size, t, HT.out, HP.out, .inr ⟨by omega, by rw [hz, acc4]; exact ⟨fun _ => ⟨Hd0.out, F1.out, F2.out, F3.out⟩, fun _ => rfl⟩⟩⟩, rfl⟩
                      case neg =>
                        have g3' : (bt t 3 == 67) = false := by simpa using g3
                        have Hg3 : Hid (¬ bt t 3 = 67) := g3
                        clear g3
                        go_wp2_with fail
                        go_ret
                        exact ⟨⟨false, rfl, t.size, t, HT.out, HP.out, .inr ⟨by omega, by rw [hz, acc4]; exact no_iff (fun hh => (hh.2.2.2).elim Hd3.out Hg3.out)⟩⟩, rfl⟩
                  case neg =>
                    have g2' : (bt t 2 == 84) = false := by simpa using g2
                    have Hg2 : Hid (¬ bt t 2 = 84) := g2
                    clear g2
                    go_wp2_with fail
                    go_ret
                    exact ⟨⟨false, rfl, t.size, t, HT.out, HP.out, .inr ⟨by omega, by rw [hz, acc4]; exact no_iff (fun hh => (hh.2.2.1).elim Hd2.out Hg2.out)⟩⟩, rfl⟩
              case neg =>
                have g1' : (bt t 1 == 85) = false := by simpa using g1
                have Hg1 : Hid (¬ bt t 1 = 85) := g1
                clear g1
                go_wp2_with fail
                go_ret
                exact ⟨⟨false, rfl, t.size, t, HT.out, HP.out, .inr ⟨by omega, by rw [hz, acc4]; exact no_iff (fun hh => (hh.2.1).elim Hd1.out Hg1.out)⟩⟩, rfl⟩
          case neg =>
            have d0' : (bt t 0 == 32) = false := by simpa using d0
            have Hd0 : Hid (¬ bt t 0 = 32) := d0
            clear d0
            go_wp2_with fail
            go_ret
            exact ⟨⟨false, rfl, t.size, t, HT.out, HP.out, .inr ⟨by omega, by rw [hz, acc4]; exact no_iff (fun hh => Hd0.out hh.1)⟩⟩, rfl⟩
        have HN : Hid (¬ Acc (bt t) t.size) := accX _ _ z1 z3 z4 z5 z6 z9
        have y0 : ((t.size : Int) == 0) = false := by rw [beq_eq_false_iff_ne]; omega
        have y1 : ((t.size : Int) == 1) = false := by rw [beq_eq_false_iff_ne]; omega
        have y3 : ((t.size : Int) == 3) = false := by rw [beq_eq_false_iff_ne]; omega
        have y4 : ((t.size : Int) == 4) = false := by rw [beq_eq_false_iff_ne]; omega
        have y5 : ((t.size : Int) == 5) = false := by rw [beq_eq_false_iff_ne]; omega
        have y6 : ((t.size : Int) == 6) = false := by rw [beq_eq_false_iff_ne]; omega
        have y9 : ((t.size : Int) == 9) = false := by rw [beq_eq_false_iff_ne]; omega
        clear z1 z3 z4 z5 z6 z9
        go_wp2_with fail
        go_ret
        exact ⟨⟨false, rfl, t.size, t, HT.out, HP.out, .inr ⟨by omega, by exact no_iff HN.out⟩⟩, rfl⟩

def AccAny (s : ByteArray) (b : Bool) : Prop := (s.size = 0 ∧ b = true) ∨ (0 < s.size ∧ AccOf s b)

theorem acc_any (s : ByteArray) (w : World) (hm : s.size ≤ maxLen) :
    Calls Try.prog 12 #[.string s] w fun e w' => RetB (AccAny s) e ∧ w' = w := by
  by_cases h : s.size = 0
  · have hem : s.toList.isEmpty = true := by rw [isEmpty_dec]; simpa using h
    have HF : Hid (AccAny s true) := .inl ⟨h, rfl⟩
    clear h
    go_enter Try.func12, Try.ntmps12
    go_wp2_with fail
    go_ret
    exact ⟨⟨true, rfl, HF.out⟩, rfl⟩
  · exact (acc_pos s w hm (by omega)).mono fun e w' ⟨⟨b, he, hb⟩, hw⟩ => ⟨⟨b, he, .inr ⟨by omega, hb⟩⟩, hw⟩

end Go.Proofs.Qxb6603772a.Zn
