/- The walk of FnScanClockReadsWhatIsWritten. -/
import Derived.Test.Qxb6603772aClock2
import Derived.Test.Qxb6603772aWritten
namespace Go.Proofs.Qxb6603772a.Ck
set_option linter.unusedVariables false
set_option linter.unusedSimpArgs false
open Go.ChangeShapes Go.WideShapes Go.ChangeAt Go.RowKit Go.PlainAid
open Go.Proofs.Qxb6603772a.Bs Go.Proofs.Qxb6603772a.Wk Go.Proofs.Qxb6603772a.Zn

def ClockZ (X : ByteArray) (k : Nat) (e : Ending) : Prop :=
  ∃ t, e = .returned (.tuple #[.int .i64 (((two (bt X 0) (bt X 1) * 60 + two (bt X 3) (bt X 4)) * 60 + two (bt X 6) (bt X 7)) * 1000000 + six (bt X 9) (bt X 10) (bt X 11) (bt X 12) (bt X 13) (bt X 14)), .string t, .bool true,
      .bool (decide ((((two (bt X 0) (bt X 1) * 60 + two (bt X 3) (bt X 4)) * 60 + two (bt X 6) (bt X 7)) * 1000000 + six (bt X 9) (bt X 10) (bt X 11) (bt X 12) (bt X 13) (bt X 14)) ≤ 86400000000))]) ∧ Suf X t (9 + k)

set_option maxHeartbeats 400000 in
theorem ZZscanClock_any (X : ByteArray) (k : Nat) (w : World) (hm : X.size ≤ maxLen) (hn : 9 + k ≤ X.size) (hk : 6 ≤ k)
    (d0 : digB (bt X 0) = true) (d1 : digB (bt X 1) = true) (c2 : bt X 2 = 58) (d3 : digB (bt X 3) = true) (d4 : digB (bt X 4) = true) (c5 : bt X 5 = 58) (d6 : digB (bt X 6) = true) (d7 : digB (bt X 7) = true) (c8 : bt X 8 = 46)
    (hrun : IsRun (bt X) 9 k) (u1 : two (bt X 3) (bt X 4) ≤ 59) (u2 : two (bt X 6) (bt X 7) ≤ 59) :
    Calls Try.prog 16 #[.string X] w fun e w' => ClockZ X k e ∧ Grown w w' := by
  have K : Hid (∀ wx, Calls Try.prog 28 #[.string X] wx fun e w' => ClockOf X k e ∧ Grown wx w') := fun wx => scanClock_any X k wx hm hn hk d0 d1 c2 d3 d4 c5 d6 d7 c8 hrun u1 u2
  clear d0 d1 d3 d4 d6 d7 c2 c5 c8 hrun u1 u2
  go_enter Try.func16, Try.ntmps16
  go_wp2_with fail
  refine (K.out _).mono ?_
  rintro e w1 ⟨⟨t, rfl, ht⟩, hg⟩
  have HZ : Hid (∀ e, e = .returned (.tuple #[.int .i64 (((two (bt X 0) (bt X 1) * 60 + two (bt X 3) (bt X 4)) * 60 + two (bt X 6) (bt X 7)) * 1000000 + six (bt X 9) (bt X 10) (bt X 11) (bt X 12) (bt X 13) (bt X 14)), .string t, .bool true,
      .bool (decide ((((two (bt X 0) (bt X 1) * 60 + two (bt X 3) (bt X 4)) * 60 + two (bt X 6) (bt X 7)) * 1000000 + six (bt X 9) (bt X 10) (bt X 11) (bt X 12) (bt X 13) (bt X 14)) ≤ 86400000000))]) → ClockZ X k e) := fun e he => ⟨t, he, ht⟩
  generalize (((two (bt X 0) (bt X 1) * 60 + two (bt X 3) (bt X 4)) * 60 + two (bt X 6) (bt X 7)) * 1000000 + six (bt X 9) (bt X 10) (bt X 11) (bt X 12) (bt X 13) (bt X 14)) = T at *
  generalize decide (T ≤ 86400000000) = ok at *
  go_wp2_with fail
  go_quiet (fail)
  go_wp2_with fail
  refine bodyPost_ret (v := .tuple #[.int .i64 T, .string t, .bool true, .bool ok]) (by simp [results, Try.results16, go_sem]) rfl ⟨HZ.out _ rfl, ?_⟩
  exact Zn.Grown_drewN (hg.alloc _ _) _

theorem bytes14 (a b c d : Int) (t : ByteArray) (ht : t.size ≤ maxLen) (w : World) :
    Calls Try.prog 14 #[.int .i64 a, .int .i64 b, .int .i64 c, .int .i64 d, .string t] w fun e w' => e = .returned (.bool (decide (t.size ≤ 1048576))) ∧ w' = w := by
  unfold maxLen at ht
  by_cases h : t.size ≤ 1048576
  · go_enter Try.func14, Try.ntmps14
    go_wp2
    go_ret
    exact ⟨by simp [h], rfl⟩
  · go_enter Try.func14, Try.ntmps14
    go_wp2
    go_ret
    exact ⟨by simp [h], rfl⟩

theorem run_exists (B : Nat → Int) (n : Nat) (hz : digB (B n) = false) : ∃ d, IsRun B 0 d ∧ d ≤ n := by
  have key : ∀ m, (∃ d, IsRun B 0 d ∧ d ≤ m) ∨ ∀ j, j < m → digB (B j) = true := by
    intro m
    induction m with
    | zero => exact .inr (by omega)
    | succ m ih =>
      rcases ih with ⟨d, h1, h2⟩ | h
      · exact .inl ⟨d, h1, by omega⟩
      · cases hm : digB (B m)
        · exact .inl ⟨m, ⟨fun j hj => by rw [Nat.zero_add]; exact h j hj, by rw [Nat.zero_add]; exact hm⟩, by omega⟩
        · refine .inr fun j hj => ?_
          by_cases e : j < m
          · exact h j e
          · obtain rfl : m = j := by omega
            exact hm
  rcases key n with h | h
  · exact h
  · exact ⟨n, ⟨fun j hj => by rw [Nat.zero_add]; exact h j hj, by rw [Nat.zero_add]; exact hz⟩, Nat.le_refl _⟩

theorem lit_bl (c : UInt8) : bl ⟨#[c]⟩ = [(c.toNat : Int)] := rfl

theorem sx_digits (n : Int) (h0 : 0 ≤ n) (h1 : n ≤ 999999) : (∀ c ∈ sx n, digB c = true) ∧
    six (48 + n / 10 / 10 / 10 / 10 / 10 % 10) (48 + n / 10 / 10 / 10 / 10 % 10) (48 + n / 10 / 10 / 10 % 10) (48 + n / 10 / 10 % 10) (48 + n / 10 % 10) (48 + n % 10) = n := by
  refine ⟨?_, ?_⟩
  · intro c hc
    simp [sx] at hc
    simp [digB]
    rcases hc with rfl | rfl | rfl | rfl | rfl | rfl <;> omega
  · unfold six
    omega

theorem sx_bl (n : Int) (h0 : 0 ≤ n) (h1 : n ≤ 999999) : bl (strOfNums (sx n)) = sx n :=
  bl_nums _ (by
    intro c hc
    have := (sx_digits n h0 h1).1 c hc
    simp [digB] at this
    omega)

/-- The bytes of the clock that is written out, ahead of the tail. -/
def hd15 (h m s f : Int) : List Int := tw h ++ [58] ++ tw m ++ [58] ++ tw s ++ [46] ++ sx f

section
variable {X tail : ByteArray} {h m s f : Int} (hb : bl X = hd15 h m s f ++ bl tail)

theorem hd15_size (hb : bl X = hd15 h m s f ++ bl tail) : X.size = 15 + tail.size := by
  rw [← bl_length X, hb, List.length_append, bl_length]
  rfl

theorem hd15_tail (hb : bl X = hd15 h m s f ++ bl tail) (i : Nat) : bt X (15 + i) = bt tail i := by
  rw [← bl_getD X, hb, List.getD_eq_getElem?_getD, List.getElem?_append_right (by show 15 ≤ 15 + i; omega), ← List.getD_eq_getElem?_getD]
  rw [show 15 + i - (hd15 h m s f).length = i from by show 15 + i - 15 = i; omega, bl_getD]

theorem hd15_head (hb : bl X = hd15 h m s f ++ bl tail) (i : Nat) (hi : i < 15) : bt X i = (hd15 h m s f).getD i 0 := by
  rw [← bl_getD X, hb, List.getD_eq_getElem?_getD, List.getElem?_append_left (by show i < 15; exact hi), ← List.getD_eq_getElem?_getD]

theorem hd15_run (hb : bl X = hd15 h m s f ++ bl tail) (f0 : 0 ≤ f) (f1 : f ≤ 999999) (d : Nat) (hr : IsRun (bt tail) 0 d) : IsRun (bt X) 9 (6 + d) := by
  have g := (sx_digits f f0 f1).1
  refine ⟨fun j hj => ?_, ?_⟩
  · by_cases e : j < 6
    · rw [hd15_head hb (9 + j) (by omega)]
      rcases (show j = 0 ∨ j = 1 ∨ j = 2 ∨ j = 3 ∨ j = 4 ∨ j = 5 by omega) with rfl | rfl | rfl | rfl | rfl | rfl
      all_goals exact g _ (by simp [hd15, tw, sx])
    · have := hr.1 (j - 6) (by omega)
      rw [show 9 + j = 15 + (j - 6) from by omega, hd15_tail hb]
      rw [Nat.zero_add] at this
      exact this
  · rw [show 9 + (6 + d) = 15 + d from by omega, hd15_tail hb]
    have := hr.2
    rw [Nat.zero_add] at this
    exact this

theorem hd15_suf (hb : bl X = hd15 h m s f ++ bl tail) (d : Nat) (hd : d ≤ tail.size) : Suf X (tail.extract d tail.size) (9 + (6 + d)) := by
  refine ⟨?_, fun i => ?_⟩
  · rw [hd15_size hb]; simp; omega
  · rw [bt_ext, show 9 + (6 + d) + i = 15 + (d + i) from by omega, hd15_tail hb]
end

set_option maxHeartbeats 1000000 in
theorem clock_law (h m s f : Int) (tail : ByteArray) (w : World) (ht : tail.size ≤ 1048576) (h0 : 0 ≤ h) (h1 : h ≤ 24) (m0 : 0 ≤ m) (m1 : m ≤ 59) (s0 : 0 ≤ s) (s1 : s ≤ 59) (f0 : 0 ≤ f) (f1 : f ≤ 999999) :
    Calls Try.prog 5 #[.int .i64 h, .int .i64 m, .int .i64 s, .int .i64 f, .string tail] w fun e w' => e = .returned (.bool true) ∧ Grown w w' := by
  have htm : tail.size ≤ maxLen := by unfold maxLen; omega
  have hb : decide (tail.size ≤ 1048576) = true := by simpa using ht
  obtain ⟨d, hr, hd⟩ := run_exists (bt tail) tail.size (by rw [bt_end tail (Nat.le_refl _)]; rfl)
  have HR : Hid (IsRun (bt tail) 0 d) := hr
  clear hr
  go_enter Try.func5, Try.ntmps5
  go_wp2_with fail
  refine (bytes14 _ _ _ _ _ htm _).mono ?_
  rintro e w0 ⟨rfl, hw0⟩
  rw [hw0, hb]
  clear hw0
  go_wp2_with fail
  refine (two_any _ _ (by omega) (by omega)).mono ?_
  rintro e w1 ⟨rfl, hg1⟩
  have zxh : (strOfNums (tw h)).size = 2 := rfl
  have Hxh : Hid (bl (strOfNums (tw h)) = tw h) := tw_bl _ (by omega) (by omega)
  generalize strOfNums (tw h) = xh at *
  go_wp2_with fail
  refine (two_any _ _ (by omega) (by omega)).mono ?_
  rintro e w2 ⟨rfl, hg2⟩
  have zxm : (strOfNums (tw m)).size = 2 := rfl
  have Hxm : Hid (bl (strOfNums (tw m)) = tw m) := tw_bl _ (by omega) (by omega)
  generalize strOfNums (tw m) = xm at *
  go_wp2_with fail
  refine (two_any _ _ (by omega) (by omega)).mono ?_
  rintro e w3 ⟨rfl, hg3⟩
  have zxs : (strOfNums (tw s)).size = 2 := rfl
  have Hxs : Hid (bl (strOfNums (tw s)) = tw s) := tw_bl _ (by omega) (by omega)
  generalize strOfNums (tw s) = xs at *
  go_wp2_with fail
  refine (six_any _ _ (by omega) (by omega)).mono ?_
  rintro e w4 ⟨rfl, hg4⟩
  have zxf : (strOfNums (sx f)).size = 6 := rfl
  have Hxf : Hid (bl (strOfNums (sx f)) = sx f) := sx_bl _ (by omega) (by omega)
  generalize strOfNums (sx f) = xf at *
  have hg := Gw.trans (Gw.trans (Gw.trans hg1 hg2) hg3) hg4
  clear hg1 hg2 hg3 hg4
  go_wp2_with fail
  have hX : bl (xh ++ ⟨#[58]⟩ ++ xm ++ ⟨#[58]⟩ ++ xs ++ ⟨#[46]⟩ ++ xf ++ tail) = hd15 h m s f ++ bl tail := by
    simp only [bl_append, lit_bl, Hxh.out, Hxm.out, Hxs.out, Hxf.out]
    rfl
  generalize xh ++ ⟨#[58]⟩ ++ xm ++ ⟨#[58]⟩ ++ xs ++ ⟨#[46]⟩ ++ xf ++ tail = X at *
  have HX : Hid (bl X = hd15 h m s f ++ bl tail) := hX
  clear hX Hxh Hxm Hxs Hxf zxh zxm zxs zxf
  have hsX := hd15_size HX.out
  have e := hd15_head HX.out
  have e0 : bt X 0 = 48 + h / 10 := e 0 (by omega)
  have e1 : bt X 1 = 48 + h % 10 := e 1 (by omega)
  have e2 : bt X 2 = 58 := e 2 (by omega)
  have e3 : bt X 3 = 48 + m / 10 := e 3 (by omega)
  have e4 : bt X 4 = 48 + m % 10 := e 4 (by omega)
  have e5 : bt X 5 = 58 := e 5 (by omega)
  have e6 : bt X 6 = 48 + s / 10 := e 6 (by omega)
  have e7 : bt X 7 = 48 + s % 10 := e 7 (by omega)
  have e8 : bt X 8 = 46 := e 8 (by omega)
  have e9 : six (bt X 9) (bt X 10) (bt X 11) (bt X 12) (bt X 13) (bt X 14) = f := by
    rw [e 9 (by omega), e 10 (by omega), e 11 (by omega), e 12 (by omega), e 13 (by omega), e 14 (by omega)]
    exact (sx_digits f f0 f1).2
  clear e
  have th := tw_digits h h0 (by omega)
  have tm := tw_digits m m0 (by omega)
  have ts := tw_digits s s0 (by omega)
  have K := fun wx => ZZscanClock_any X (6 + d) wx (by unfold maxLen; omega) (by omega) (by omega) (by rw [e0]; exact th.1) (by rw [e1]; exact th.2.1) e2 (by rw [e3]; exact tm.1) (by rw [e4]; exact tm.2.1) e5 (by rw [e6]; exact ts.1) (by rw [e7]; exact ts.2.1) e8
    (hd15_run HX.out f0 f1 d HR.out) (by rw [e3, e4, tm.2.2]; omega) (by rw [e6, e7, ts.2.2]; omega)
  have HV : Hid (two (bt X 0) (bt X 1) = h ∧ two (bt X 3) (bt X 4) = m ∧ two (bt X 6) (bt X 7) = s ∧ six (bt X 9) (bt X 10) (bt X 11) (bt X 12) (bt X 13) (bt X 14) = f) :=
    ⟨by rw [e0, e1, th.2.2], by rw [e3, e4, tm.2.2], by rw [e6, e7, ts.2.2], e9⟩
  have HS : Hid (Suf X (tail.extract d tail.size) (9 + (6 + d))) := hd15_suf HX.out d hd
  clear e0 e1 e2 e3 e4 e5 e6 e7 e8 e9 th tm ts HX
  refine (K _).mono ?_
  rintro e w5 ⟨⟨t, rfl, hsuf⟩, hg5⟩
  rw [HV.out.1, HV.out.2.1, HV.out.2.2.1, HV.out.2.2.2, Suf.eq hsuf HS.out]
  have hg6 := Gw.trans hg hg5
  clear hsuf HS HV K hg hg5 hsX
  have eqT : (((h * 60 + m) * 60 + s) * 1000000 + f == h * 3600000000 + m * 60000000 + s * 1000000 + f) = true := by simp; omega
  have HW : Hid (∀ d' : Nat, IsRun (bt tail) 0 d' → d' = d) := fun d' hr => run_unique hr HR.out
  by_cases hh : h < 24
  · have hok : decide (((h * 60 + m) * 60 + s) * 1000000 + f ≤ 86400000000) = true := by simp; omega
    rw [hok]
    go_wp2_with fail
    refine (run_any tail 0 _ htm (by omega)).mono ?_
    rintro e w6 ⟨⟨d', rfl, hd'⟩, hw6⟩
    rw [hw6, HW.out d' hd'.1]
    clear hw6 hd'
    go_wp2_with fail
    go_ret
    exact ⟨rfl, hg6⟩
  · have hh' : decide (h < 24) = false := by simpa using hh
    by_cases em : m = 0
    · have em' : (m == 0) = true := by simpa using em
      by_cases es : s = 0
      · have es' : (s == 0) = true := by simpa using es
        by_cases ef : f = 0
        · have ef' : (f == 0) = true := by simpa using ef
          have hok : decide (((h * 60 + m) * 60 + s) * 1000000 + f ≤ 86400000000) = true := by simp; omega
          rw [hok]
          clear em es ef
          go_wp2_with fail
          refine (run_any tail 0 _ htm (by omega)).mono ?_
          rintro e w6 ⟨⟨d', rfl, hd'⟩, hw6⟩
          rw [hw6, HW.out d' hd'.1]
          clear hw6 hd'
          go_wp2_with fail
          go_ret
          exact ⟨rfl, hg6⟩
        · have ef' : (f == 0) = false := by simpa using ef
          have hok : decide (((h * 60 + m) * 60 + s) * 1000000 + f ≤ 86400000000) = false := by simp; omega
          rw [hok]
          clear em es ef
          go_wp2_with fail
          refine (run_any tail 0 _ htm (by omega)).mono ?_
          rintro e w6 ⟨⟨d', rfl, hd'⟩, hw6⟩
          rw [hw6, HW.out d' hd'.1]
          clear hw6 hd'
          go_wp2_with fail
          go_ret
          exact ⟨rfl, hg6⟩
      · have es' : (s == 0) = false := by simpa using es
        have hok : decide (((h * 60 + m) * 60 + s) * 1000000 + f ≤ 86400000000) = false := by simp; omega
        rw [hok]
        clear em es
        go_wp2_with fail
        refine (run_any tail 0 _ htm (by omega)).mono ?_
        rintro e w6 ⟨⟨d', rfl, hd'⟩, hw6⟩
        rw [hw6, HW.out d' hd'.1]
        clear hw6 hd'
        go_wp2_with fail
        go_ret
        exact ⟨rfl, hg6⟩
    · have em' : (m == 0) = false := by simpa using em
      have hok : decide (((h * 60 + m) * 60 + s) * 1000000 + f ≤ 86400000000) = false := by simp; omega
      rw [hok]
      clear em
      go_wp2_with fail
      refine (run_any tail 0 _ htm (by omega)).mono ?_
      rintro e w6 ⟨⟨d', rfl, hd'⟩, hw6⟩
      rw [hw6, HW.out d' hd'.1]
      clear hw6 hd'
      go_wp2_with fail
      go_ret
      exact ⟨rfl, hg6⟩

/-- Out of the ranges: the law waves it through. -/
theorem clock_wave (h m s f : Int) (tail : ByteArray) (w : World) (ht : tail.size ≤ maxLen)
    (hw : 1048576 < tail.size ∨ h < 0 ∨ 24 < h ∨ m < 0 ∨ 59 < m ∨ s < 0 ∨ 59 < s ∨ f < 0 ∨ 999999 < f) :
    Calls Try.prog 5 #[.int .i64 h, .int .i64 m, .int .i64 s, .int .i64 f, .string tail] w fun e w' => e = .returned (.bool true) ∧ Grown w w' := by
  by_cases hb : tail.size ≤ 1048576
  · have hb' : decide (tail.size ≤ 1048576) = true := by simpa using hb
    have hor : ((((((((decide (h < 0) || decide (24 < h)) || decide (m < 0)) || decide (59 < m)) || decide (s < 0)) || decide (59 < s)) || decide (f < 0)) || decide (999999 < f))) = true := by
      simp only [Bool.or_eq_true, decide_eq_true_eq]
      omega
    clear hw
    go_enter Try.func5, Try.ntmps5
    go_wp2_with fail
    refine (bytes14 _ _ _ _ _ ht _).mono ?_
    rintro e w0 ⟨rfl, hw0⟩
    rw [hw0, hb']
    clear hw0
    go_wp2_with fail
    all_goals
      go_ret
      exact ⟨rfl, Grown.refl _⟩
  · have hb' : decide (tail.size ≤ 1048576) = false := by simpa using hb
    clear hw
    go_enter Try.func5, Try.ntmps5
    go_wp2_with fail
    refine (bytes14 _ _ _ _ _ ht _).mono ?_
    rintro e w0 ⟨rfl, hw0⟩
    rw [hw0, hb']
    clear hw0
    go_wp2_with fail
    go_ret
    exact ⟨rfl, Grown.refl _⟩

theorem clock_any (h m s f : Int) (tail : ByteArray) (w : World) (ht : tail.size ≤ maxLen) :
    Calls Try.prog 5 #[.int .i64 h, .int .i64 m, .int .i64 s, .int .i64 f, .string tail] w fun e w' => e = .returned (.bool true) ∧ Grown w w' := by
  by_cases hw : 1048576 < tail.size ∨ h < 0 ∨ 24 < h ∨ m < 0 ∨ 59 < m ∨ s < 0 ∨ 59 < s ∨ f < 0 ∨ 999999 < f
  · exact clock_wave h m s f tail w ht hw
  · exact clock_law h m s f tail w (by omega) (by omega) (by omega) (by omega) (by omega) (by omega) (by omega) (by omega) (by omega)

end Go.Proofs.Qxb6603772a.Ck
