/- The walk of b1ZoneHead. -/
import Derived.Test.Qxb6603772aZone2
namespace Go.Proofs.Qxb6603772a.Zn
set_option linter.unusedVariables false
set_option linter.unusedSimpArgs false
open Go.ChangeShapes Go.WideShapes Go.ChangeAt Go.RowKit Go.PlainAid
open Go.Proofs.Qxb6603772a.Bs Go.Proofs.Qxb6603772a.Wk

/-- What b1ZoneHead answers. -/
def HeadOf (B : Nat → Int) (n : Nat) (v : Int) : Prop :=
  ((n = 0 ∨ (B 0 ≠ 43 ∧ B 0 ≠ 45)) ∧ v = 0) ∨
  (0 < n ∧ (B 0 = 43 ∨ B 0 = 45) ∧ ∃ d, IsRun B 1 d ∧
    ((d = 2 ∧ ¬ Fd B 3 ∧ v = two (B 1) (B 2) * 3600 * sgn B) ∨
     (d = 2 ∧ Fd B 3 ∧ ¬ Fd B 6 ∧ v = (two (B 1) (B 2) * 3600 + two (B 4) (B 5) * 60) * sgn B) ∨
     (d = 2 ∧ Fd B 3 ∧ Fd B 6 ∧ v = (two (B 1) (B 2) * 3600 + two (B 4) (B 5) * 60 + two (B 7) (B 8)) * sgn B) ∨
     (d = 4 ∧ v = (two (B 1) (B 2) * 3600 + two (B 3) (B 4) * 60) * sgn B) ∨
     (d ≠ 2 ∧ d ≠ 4 ∧ v = 0)))

def RetN (p : Int → Prop) (e : Ending) : Prop := ∃ v, e = .returned (.int .i64 v) ∧ p v

set_option maxHeartbeats 400000 in
theorem head_none (s : ByteArray) (w : World) (hm : s.size ≤ maxLen) (h : s.size = 0 ∨ (bt s 0 ≠ 43 ∧ bt s 0 ≠ 45)) :
    Calls Try.prog 11 #[.string s] w fun e w' => RetN (HeadOf (bt s) s.size) e ∧ ∃ n, w' = w.drewN n := by
  have hb := get_bt s
  have HF : Hid (HeadOf (bt s) s.size 0) := .inl ⟨h, rfl⟩
  by_cases hz : s.size = 0
  · have hem : s.toList.isEmpty = true := by rw [isEmpty_dec]; simpa using hz
    clear hz h
    go_enter Try.func11, Try.ntmps11
    go_wp2_with fail
    go_ret
    exact ⟨⟨0, rfl, HF.out⟩, 0, rfl⟩
  · have hem : s.toList.isEmpty = false := by rw [isEmpty_dec]; simpa using hz
    have hp : 0 < s.size := by omega
    have e1 : (bt s 0 != 43) = true := by rw [bne_iff_ne]; omega
    have e2 : (bt s 0 != 45) = true := by rw [bne_iff_ne]; omega
    clear hz h
    go_enter Try.func11, Try.ntmps11
    go_wp2_with fail
    go_ret
    exact ⟨⟨0, rfl, HF.out⟩, 0, rfl⟩

theorem digAll2 {B : Nat → Int} {i : Nat} {b : Bool} (h : DigAll B i 2 b) : b = true ↔ digB (B i) = true ∧ digB (B (i + 1)) = true := by
  refine h.trans ⟨fun h => ⟨h 0 (by omega), h 1 (by omega)⟩, fun h j hj => ?_⟩
  rcases (show j = 0 ∨ j = 1 by omega) with rfl | rfl
  · exact h.1
  · exact h.2

set_option maxHeartbeats 1000000 in
theorem head_plus (s : ByteArray) (w : World) (hm : s.size ≤ maxLen) (h : 0 < s.size) (c1 : bt s 0 = 43) :
    Calls Try.prog 11 #[.string s] w fun e w' => RetN (HeadOf (bt s) s.size) e ∧ ∃ n, w' = w.drewN n := by
  have hb := get_bt s
  have hem : s.toList.isEmpty = false := by rw [isEmpty_dec]; simp; intro e; rw [e] at h; simp at h
  have hm2 := hm
  unfold maxLen at hm2
  have HSC : Hid (bt s 0 = 43 ∨ bt s 0 = 45) := .inl c1
  have HSG : Hid (sgn (bt s) = 1) := by show _ = _; unfold sgn; rw [if_neg (by omega)]
  go_enter Try.func11, Try.ntmps11
  go_wp2_with fail
  refine (run_any s 1 _ hm (by omega)).mono ?_
  rintro e w1 ⟨⟨d, rfl, hr, hd⟩, hw1⟩
  rw [hw1]
  clear hw1
  have HR : Hid (IsRun (bt s) 1 d) := hr
  clear hr
  by_cases hd2 : d = 2
  · subst hd2
    have r1 : digB (bt s 1) = true := HR.out.1 0 (by omega)
    have r2 : digB (bt s 2) = true := HR.out.1 1 (by omega)
    have b1 := (two_bd r1 r2).1
    have b2 := (two_bd r1 r2).2
    have Q1 : Hid (∀ wx, Calls Try.prog 25 #[.string s, .int .i64 1] wx fun e w' => e = .returned (.int .i64 (two (bt s 1) (bt s 2))) ∧ ∃ n, w' = wx.drewN n) := fun wx => pair_any s 1 wx hm (by omega) r1 r2
    go_wp2_with fail
    refine (Q1.out _).mono ?_
    rintro e w2 ⟨rfl, n2, hw2⟩
    subst hw2
    clear Q1
    generalize hT1 : two (bt s 1) (bt s 2) = T1 at *
    have HT1 : Hid (two (bt s 1) (bt s 2) = T1) := hT1
    clear hT1
    by_cases l3 : s.size < 6
    · have HNF : Hid (¬ Fd (bt s) 3) := by
        intro f
        have := bt_of_dig f.2.2
        omega
      go_wp2_with fail
      go_ret
      exact ⟨⟨_, rfl, .inr ⟨h, HSC.out, 2, HR.out, .inl ⟨rfl, HNF.out, by rw [HT1.out, HSG.out]; omega⟩⟩⟩, _, rfl⟩
    by_cases c3 : bt s 3 = 58
    case neg =>
      have HNF : Hid (¬ Fd (bt s) 3) := fun f => c3 f.1
      have c3' : (bt s 3 == 58) = false := by simpa using c3
      clear c3
      go_wp2_with fail
      go_ret
      exact ⟨⟨_, rfl, .inr ⟨h, HSC.out, 2, HR.out, .inl ⟨rfl, HNF.out, by rw [HT1.out, HSG.out]; omega⟩⟩⟩, _, rfl⟩
    case pos =>
      have c3' : (bt s 3 == 58) = true := by simpa using c3
      have HC3 : Hid (bt s 3 = 58) := c3
      clear c3
      have A3 : Hid (∀ wx, Calls Try.prog 26 #[.string s, .int .i64 4, .int .i64 2] wx fun e w' => RetB (DigAll (bt s) 4 2) e ∧ w' = wx) := fun wx => digitsAt_any s 4 2 wx hm (by omega)
      go_wp2_with fail
      refine (A3.out _).mono ?_
      rintro e wa3 ⟨⟨bb3, rfl, hda3⟩, hwa3⟩
      rw [hwa3]
      clear hwa3
      have hda3' := digAll2 hda3
      cases bb3
      · have HNF : Hid (¬ Fd (bt s) 3) := fun f => by have := hda3'.2 ⟨f.2.1, f.2.2⟩; cases this
        clear hda3 hda3'
        go_wp2_with fail
        go_ret
        exact ⟨⟨_, rfl, .inr ⟨h, HSC.out, 2, HR.out, .inl ⟨rfl, HNF.out, by rw [HT1.out, HSG.out]; omega⟩⟩⟩, _, rfl⟩
      · have HF3 : Hid (Fd (bt s) 3) := ⟨HC3.out, (hda3'.1 rfl).1, (hda3'.1 rfl).2⟩
        clear hda3 hda3'
        have x0 := (two_bd HF3.out.2.1 HF3.out.2.2).1
        have x1 := (two_bd HF3.out.2.1 HF3.out.2.2).2
        have Q3 : Hid (∀ wx, Calls Try.prog 25 #[.string s, .int .i64 4] wx fun e w' => e = .returned (.int .i64 (two (bt s 4) (bt s 5))) ∧ ∃ n, w' = wx.drewN n) := fun wx => pair_any s 4 wx hm (by omega) HF3.out.2.1 HF3.out.2.2
        go_wp2_with fail
        refine (Q3.out _).mono ?_
        rintro e wq3 ⟨rfl, nq3, hwq3⟩
        subst hwq3
        clear Q3 A3
        generalize hU3 : two (bt s 4) (bt s 5) = U3 at *
        have HU3 : Hid (two (bt s 4) (bt s 5) = U3) := hU3
        clear hU3
        by_cases l6 : s.size < 9
        · have HNF : Hid (¬ Fd (bt s) 6) := by
            intro f
            have := bt_of_dig f.2.2
            omega
          go_wp2_with fail
          go_ret
          exact ⟨⟨_, rfl, .inr ⟨h, HSC.out, 2, HR.out, .inr (.inl ⟨rfl, HF3.out, HNF.out, by rw [HT1.out, HU3.out, HSG.out]; omega⟩)⟩⟩, _, rfl⟩
        by_cases c6 : bt s 6 = 58
        case neg =>
          have HNF : Hid (¬ Fd (bt s) 6) := fun f => c6 f.1
          have c6' : (bt s 6 == 58) = false := by simpa using c6
          clear c6
          go_wp2_with fail
          go_ret
          exact ⟨⟨_, rfl, .inr ⟨h, HSC.out, 2, HR.out, .inr (.inl ⟨rfl, HF3.out, HNF.out, by rw [HT1.out, HU3.out, HSG.out]; omega⟩)⟩⟩, _, rfl⟩
        case pos =>
          have c6' : (bt s 6 == 58) = true := by simpa using c6
          have HC6 : Hid (bt s 6 = 58) := c6
          clear c6
          have A6 : Hid (∀ wx, Calls Try.prog 26 #[.string s, .int .i64 7, .int .i64 2] wx fun e w' => RetB (DigAll (bt s) 7 2) e ∧ w' = wx) := fun wx => digitsAt_any s 7 2 wx hm (by omega)
          go_wp2_with fail
          refine (A6.out _).mono ?_
          rintro e wa6 ⟨⟨bb6, rfl, hda6⟩, hwa6⟩
          rw [hwa6]
          clear hwa6
          have hda6' := digAll2 hda6
          cases bb6
          · have HNF : Hid (¬ Fd (bt s) 6) := fun f => by have := hda6'.2 ⟨f.2.1, f.2.2⟩; cases this
            clear hda6 hda6'
            go_wp2_with fail
            go_ret
            exact ⟨⟨_, rfl, .inr ⟨h, HSC.out, 2, HR.out, .inr (.inl ⟨rfl, HF3.out, HNF.out, by rw [HT1.out, HU3.out, HSG.out]; omega⟩)⟩⟩, _, rfl⟩
          · have HF6 : Hid (Fd (bt s) 6) := ⟨HC6.out, (hda6'.1 rfl).1, (hda6'.1 rfl).2⟩
            clear hda6 hda6'
            have x0 := (two_bd HF6.out.2.1 HF6.out.2.2).1
            have x1 := (two_bd HF6.out.2.1 HF6.out.2.2).2
            have Q6 : Hid (∀ wx, Calls Try.prog 25 #[.string s, .int .i64 7] wx fun e w' => e = .returned (.int .i64 (two (bt s 7) (bt s 8))) ∧ ∃ n, w' = wx.drewN n) := fun wx => pair_any s 7 wx hm (by omega) HF6.out.2.1 HF6.out.2.2
            go_wp2_with fail
            refine (Q6.out _).mono ?_
            rintro e wq6 ⟨rfl, nq6, hwq6⟩
            subst hwq6
            clear Q6 A6
            generalize hU6 : two (bt s 7) (bt s 8) = U6 at *
            have HU6 : Hid (two (bt s 7) (bt s 8) = U6) := hU6
            clear hU6
            go_wp2_with fail
            go_ret
            exact ⟨⟨_, rfl, .inr ⟨h, HSC.out, 2, HR.out, .inr (.inr (.inl ⟨rfl, HF3.out, HF6.out, by rw [HT1.out, HU3.out, HU6.out, HSG.out]; omega⟩))⟩⟩, _, rfl⟩
  · by_cases hd4 : d = 4
    · subst hd4
      have r1 : digB (bt s 1) = true := HR.out.1 0 (by omega)
      have r2 : digB (bt s 2) = true := HR.out.1 1 (by omega)
      have r3 : digB (bt s 3) = true := HR.out.1 2 (by omega)
      have r4 : digB (bt s 4) = true := HR.out.1 3 (by omega)
      have b1 := (two_bd r1 r2).1
      have b2 := (two_bd r1 r2).2
      have b3 := (two_bd r3 r4).1
      have b4 := (two_bd r3 r4).2
      have Q1 : Hid (∀ wx, Calls Try.prog 25 #[.string s, .int .i64 1] wx fun e w' => e = .returned (.int .i64 (two (bt s 1) (bt s 2))) ∧ ∃ n, w' = wx.drewN n) := fun wx => pair_any s 1 wx hm (by omega) r1 r2
      have Q3 : Hid (∀ wx, Calls Try.prog 25 #[.string s, .int .i64 3] wx fun e w' => e = .returned (.int .i64 (two (bt s 3) (bt s 4))) ∧ ∃ n, w' = wx.drewN n) := fun wx => pair_any s 3 wx hm (by omega) r3 r4
      go_wp2_with fail
      refine (Q1.out _).mono ?_
      rintro e w2 ⟨rfl, n2, hw2⟩
      subst hw2
      go_wp2_with fail
      refine (Q3.out _).mono ?_
      rintro e w3 ⟨rfl, n3, hw3⟩
      subst hw3
      clear Q1 Q3
      generalize hT1 : two (bt s 1) (bt s 2) = T1 at *
      have HT1 : Hid (two (bt s 1) (bt s 2) = T1) := hT1
      generalize hT2 : two (bt s 3) (bt s 4) = T2 at *
      have HT2 : Hid (two (bt s 3) (bt s 4) = T2) := hT2
      clear hT1 hT2
      go_wp2_with fail
      go_ret
      exact ⟨⟨_, rfl, .inr ⟨h, HSC.out, 4, HR.out, .inr (.inr (.inr (.inl ⟨rfl, by rw [HT1.out, HT2.out, HSG.out]; omega⟩)))⟩⟩, _, rfl⟩
    · have e2 : ((d : Int) == 2) = false := by simp; omega
      have e4 : ((d : Int) == 4) = false := by simp; omega
      have HZ : Hid (HeadOf (bt s) s.size 0) := .inr ⟨h, HSC.out, d, HR.out, .inr (.inr (.inr (.inr ⟨hd2, hd4, rfl⟩)))⟩
      clear hd2 hd4
      go_wp2_with fail
      go_ret
      exact ⟨⟨0, rfl, HZ.out⟩, 0, rfl⟩

set_option maxHeartbeats 1000000 in
theorem head_minus (s : ByteArray) (w : World) (hm : s.size ≤ maxLen) (h : 0 < s.size) (c1 : bt s 0 = 45) :
    Calls Try.prog 11 #[.string s] w fun e w' => RetN (HeadOf (bt s) s.size) e ∧ ∃ n, w' = w.drewN n := by
  have hb := get_bt s
  have hem : s.toList.isEmpty = false := by rw [isEmpty_dec]; simp; intro e; rw [e] at h; simp at h
  have hm2 := hm
  unfold maxLen at hm2
  have HSC : Hid (bt s 0 = 43 ∨ bt s 0 = 45) := .inr c1
  have HSG : Hid (sgn (bt s) = -1) := by show _ = _; unfold sgn; rw [if_pos c1]
  go_enter Try.func11, Try.ntmps11
  go_wp2_with fail
  refine (run_any s 1 _ hm (by omega)).mono ?_
  rintro e w1 ⟨⟨d, rfl, hr, hd⟩, hw1⟩
  rw [hw1]
  clear hw1
  have HR : Hid (IsRun (bt s) 1 d) := hr
  clear hr
  by_cases hd2 : d = 2
  · subst hd2
    have r1 : digB (bt s 1) = true := HR.out.1 0 (by omega)
    have r2 : digB (bt s 2) = true := HR.out.1 1 (by omega)
    have b1 := (two_bd r1 r2).1
    have b2 := (two_bd r1 r2).2
    have Q1 : Hid (∀ wx, Calls Try.prog 25 #[.string s, .int .i64 1] wx fun e w' => e = .returned (.int .i64 (two (bt s 1) (bt s 2))) ∧ ∃ n, w' = wx.drewN n) := fun wx => pair_any s 1 wx hm (by omega) r1 r2
    go_wp2_with fail
    refine (Q1.out _).mono ?_
    rintro e w2 ⟨rfl, n2, hw2⟩
    subst hw2
    clear Q1
    generalize hT1 : two (bt s 1) (bt s 2) = T1 at *
    have HT1 : Hid (two (bt s 1) (bt s 2) = T1) := hT1
    clear hT1
    by_cases l3 : s.size < 6
    · have HNF : Hid (¬ Fd (bt s) 3) := by
        intro f
        have := bt_of_dig f.2.2
        omega
      go_wp2_with fail
      go_ret
      exact ⟨⟨_, rfl, .inr ⟨h, HSC.out, 2, HR.out, .inl ⟨rfl, HNF.out, by rw [HT1.out, HSG.out]; omega⟩⟩⟩, _, rfl⟩
    by_cases c3 : bt s 3 = 58
    case neg =>
      have HNF : Hid (¬ Fd (bt s) 3) := fun f => c3 f.1
      have c3' : (bt s 3 == 58) = false := by simpa using c3
      clear c3
      go_wp2_with fail
      go_ret
      exact ⟨⟨_, rfl, .inr ⟨h, HSC.out, 2, HR.out, .inl ⟨rfl, HNF.out, by rw [HT1.out, HSG.out]; omega⟩⟩⟩, _, rfl⟩
    case pos =>
      have c3' : (bt s 3 == 58) = true := by simpa using c3
      have HC3 : Hid (bt s 3 = 58) := c3
      clear c3
      have A3 : Hid (∀ wx, Calls Try.prog 26 #[.string s, .int .i64 4, .int .i64 2] wx fun e w' => RetB (DigAll (bt s) 4 2) e ∧ w' = wx) := fun wx => digitsAt_any s 4 2 wx hm (by omega)
      go_wp2_with fail
      refine (A3.out _).mono ?_
      rintro e wa3 ⟨⟨bb3, rfl, hda3⟩, hwa3⟩
      rw [hwa3]
      clear hwa3
      have hda3' := digAll2 hda3
      cases bb3
      · have HNF : Hid (¬ Fd (bt s) 3) := fun f => by have := hda3'.2 ⟨f.2.1, f.2.2⟩; cases this
        clear hda3 hda3'
        go_wp2_with fail
        go_ret
        exact ⟨⟨_, rfl, .inr ⟨h, HSC.out, 2, HR.out, .inl ⟨rfl, HNF.out, by rw [HT1.out, HSG.out]; omega⟩⟩⟩, _, rfl⟩
      · have HF3 : Hid (Fd (bt s) 3) := ⟨HC3.out, (hda3'.1 rfl).1, (hda3'.1 rfl).2⟩
        clear hda3 hda3'
        have x0 := (two_bd HF3.out.2.1 HF3.out.2.2).1
        have x1 := (two_bd HF3.out.2.1 HF3.out.2.2).2
        have Q3 : Hid (∀ wx, Calls Try.prog 25 #[.string s, .int .i64 4] wx fun e w' => e = .returned (.int .i64 (two (bt s 4) (bt s 5))) ∧ ∃ n, w' = wx.drewN n) := fun wx => pair_any s 4 wx hm (by omega) HF3.out.2.1 HF3.out.2.2
        go_wp2_with fail
        refine (Q3.out _).mono ?_
        rintro e wq3 ⟨rfl, nq3, hwq3⟩
        subst hwq3
        clear Q3 A3
        generalize hU3 : two (bt s 4) (bt s 5) = U3 at *
        have HU3 : Hid (two (bt s 4) (bt s 5) = U3) := hU3
        clear hU3
        by_cases l6 : s.size < 9
        · have HNF : Hid (¬ Fd (bt s) 6) := by
            intro f
            have := bt_of_dig f.2.2
            omega
          go_wp2_with fail
          go_ret
          exact ⟨⟨_, rfl, .inr ⟨h, HSC.out, 2, HR.out, .inr (.inl ⟨rfl, HF3.out, HNF.out, by rw [HT1.out, HU3.out, HSG.out]; omega⟩)⟩⟩, _, rfl⟩
        by_cases c6 : bt s 6 = 58
        case neg =>
          have HNF : Hid (¬ Fd (bt s) 6) := fun f => c6 f.1
          have c6' : (bt s 6 == 58) = false := by simpa using c6
          clear c6
          go_wp2_with fail
          go_ret
          exact ⟨⟨_, rfl, .inr ⟨h, HSC.out, 2, HR.out, .inr (.inl ⟨rfl, HF3.out, HNF.out, by rw [HT1.out, HU3.out, HSG.out]; omega⟩)⟩⟩, _, rfl⟩
        case pos =>
          have c6' : (bt s 6 == 58) = true := by simpa using c6
          have HC6 : Hid (bt s 6 = 58) := c6
          clear c6
          have A6 : Hid (∀ wx, Calls Try.prog 26 #[.string s, .int .i64 7, .int .i64 2] wx fun e w' => RetB (DigAll (bt s) 7 2) e ∧ w' = wx) := fun wx => digitsAt_any s 7 2 wx hm (by omega)
          go_wp2_with fail
          refine (A6.out _).mono ?_
          rintro e wa6 ⟨⟨bb6, rfl, hda6⟩, hwa6⟩
          rw [hwa6]
          clear hwa6
          have hda6' := digAll2 hda6
          cases bb6
          · have HNF : Hid (¬ Fd (bt s) 6) := fun f => by have := hda6'.2 ⟨f.2.1, f.2.2⟩; cases this
            clear hda6 hda6'
            go_wp2_with fail
            go_ret
            exact ⟨⟨_, rfl, .inr ⟨h, HSC.out, 2, HR.out, .inr (.inl ⟨rfl, HF3.out, HNF.out, by rw [HT1.out, HU3.out, HSG.out]; omega⟩)⟩⟩, _, rfl⟩
          · have HF6 : Hid (Fd (bt s) 6) := ⟨HC6.out, (hda6'.1 rfl).1, (hda6'.1 rfl).2⟩
            clear hda6 hda6'
            have x0 := (two_bd HF6.out.2.1 HF6.out.2.2).1
            have x1 := (two_bd HF6.out.2.1 HF6.out.2.2).2
            have Q6 : Hid (∀ wx, Calls Try.prog 25 #[.string s, .int .i64 7] wx fun e w' => e = .returned (.int .i64 (two (bt s 7) (bt s 8))) ∧ ∃ n, w' = wx.drewN n) := fun wx => pair_any s 7 wx hm (by omega) HF6.out.2.1 HF6.out.2.2
            go_wp2_with fail
            refine (Q6.out _).mono ?_
            rintro e wq6 ⟨rfl, nq6, hwq6⟩
            subst hwq6
            clear Q6 A6
            generalize hU6 : two (bt s 7) (bt s 8) = U6 at *
            have HU6 : Hid (two (bt s 7) (bt s 8) = U6) := hU6
            clear hU6
            go_wp2_with fail
            go_ret
            exact ⟨⟨_, rfl, .inr ⟨h, HSC.out, 2, HR.out, .inr (.inr (.inl ⟨rfl, HF3.out, HF6.out, by rw [HT1.out, HU3.out, HU6.out, HSG.out]; omega⟩))⟩⟩, _, rfl⟩
  · by_cases hd4 : d = 4
    · subst hd4
      have r1 : digB (bt s 1) = true := HR.out.1 0 (by omega)
      have r2 : digB (bt s 2) = true := HR.out.1 1 (by omega)
      have r3 : digB (bt s 3) = true := HR.out.1 2 (by omega)
      have r4 : digB (bt s 4) = true := HR.out.1 3 (by omega)
      have b1 := (two_bd r1 r2).1
      have b2 := (two_bd r1 r2).2
      have b3 := (two_bd r3 r4).1
      have b4 := (two_bd r3 r4).2
      have Q1 : Hid (∀ wx, Calls Try.prog 25 #[.string s, .int .i64 1] wx fun e w' => e = .returned (.int .i64 (two (bt s 1) (bt s 2))) ∧ ∃ n, w' = wx.drewN n) := fun wx => pair_any s 1 wx hm (by omega) r1 r2
      have Q3 : Hid (∀ wx, Calls Try.prog 25 #[.string s, .int .i64 3] wx fun e w' => e = .returned (.int .i64 (two (bt s 3) (bt s 4))) ∧ ∃ n, w' = wx.drewN n) := fun wx => pair_any s 3 wx hm (by omega) r3 r4
      go_wp2_with fail
      refine (Q1.out _).mono ?_
      rintro e w2 ⟨rfl, n2, hw2⟩
      subst hw2
      go_wp2_with fail
      refine (Q3.out _).mono ?_
      rintro e w3 ⟨rfl, n3, hw3⟩
      subst hw3
      clear Q1 Q3
      generalize hT1 : two (bt s 1) (bt s 2) = T1 at *
      have HT1 : Hid (two (bt s 1) (bt s 2) = T1) := hT1
      generalize hT2 : two (bt s 3) (bt s 4) = T2 at *
      have HT2 : Hid (two (bt s 3) (bt s 4) = T2) := hT2
      clear hT1 hT2
      go_wp2_with fail
      go_ret
      exact ⟨⟨_, rfl, .inr ⟨h, HSC.out, 4, HR.out, .inr (.inr (.inr (.inl ⟨rfl, by rw [HT1.out, HT2.out, HSG.out]; omega⟩)))⟩⟩, _, rfl⟩
    · have e2 : ((d : Int) == 2) = false := by simp; omega
      have e4 : ((d : Int) == 4) = false := by simp; omega
      have HZ : Hid (HeadOf (bt s) s.size 0) := .inr ⟨h, HSC.out, d, HR.out, .inr (.inr (.inr (.inr ⟨hd2, hd4, rfl⟩)))⟩
      clear hd2 hd4
      go_wp2_with fail
      go_ret
      exact ⟨⟨0, rfl, HZ.out⟩, 0, rfl⟩

theorem head_any (s : ByteArray) (w : World) (hm : s.size ≤ maxLen) :
    Calls Try.prog 11 #[.string s] w fun e w' => RetN (HeadOf (bt s) s.size) e ∧ ∃ n, w' = w.drewN n := by
  by_cases h : s.size = 0 ∨ (bt s 0 ≠ 43 ∧ bt s 0 ≠ 45)
  · exact head_none s w hm h
  · by_cases c : bt s 0 = 43
    · exact head_plus s w hm (by omega) c
    · exact head_minus s w hm (by omega) (by omega)

end Go.Proofs.Qxb6603772a.Zn
