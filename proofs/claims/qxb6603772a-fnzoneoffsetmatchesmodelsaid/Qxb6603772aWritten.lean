/- b1Two, and the plain laws of written offsets. -/
import Derived.Test.Qxb6603772aZone2
import Derived.Test.Qxb6603772aText
namespace Go.Proofs.Qxb6603772a.Zn
set_option linter.unusedVariables false
set_option linter.unusedSimpArgs false
open Go.ChangeShapes Go.WideShapes Go.ChangeAt Go.RowKit Go.PlainAid
open Go.Proofs.Qxb6603772a.Bs Go.Proofs.Qxb6603772a.Wk

/-- Two digits. -/
def tw (n : Int) : List Int := [48 + n / 10, 48 + n % 10]

theorem tw_digits (n : Int) (h0 : 0 ≤ n) (h1 : n ≤ 99) : digB (48 + n / 10) = true ∧ digB (48 + n % 10) = true ∧ two (48 + n / 10) (48 + n % 10) = n := by
  simp [digB, two]
  omega

set_option maxHeartbeats 400000 in
theorem two_any (n : Int) (w : World) (h0 : 0 ≤ n) (h1 : n ≤ 99) :
    Calls Try.prog 13 #[.int .i64 n] w fun e w' => e = .returned (.string (strOfNums (tw n))) ∧ Grown w w' := by
  have hcv := run_convert_bytes_arg (w.alloc (.cells #[.int .u8 (48 + n / 10), .int .u8 (48 + n % 10)] 45)) (P := Try.prog) 36 5 Try.underlying36 Try.underlying5 w.heap.size 0 2 2 (tw n) rfl
    (fun i hi => by
      rcases (show i = 0 ∨ i = 1 by omega) with rfl | rfl
      · simp [tw]
      · simp [tw]) 9 Try.underlying9
  go_enter Try.func13, Try.ntmps13
  go_wp2_with fail
  go_ret
  exact ⟨rfl, (Grown.refl _).alloc _ _⟩

theorem run_unique {B : Nat → Int} {i d d' : Nat} (h : IsRun B i d) (h' : IsRun B i d') : d = d' := by
  rcases Nat.lt_trichotomy d d' with e | e | e
  · have := h'.1 d e; rw [h.2] at this; cases this
  · exact e
  · have := h.1 d' e; rw [h'.2] at this; cases this

/-- Out of ZS, for a text that begins with a sign and a run of d digits. -/
theorem zs_sign {B : Nat → Int} {n d : Nat} {off : Int} {ok : Bool} (hc : B 0 = 43 ∨ B 0 = 45) (hn : 0 < n) (hr : IsRun B 1 d) (h : ZS B n off ok) : ZSign B n d off ok := by
  rcases h with ⟨h, _⟩ | ⟨_, h, _⟩ | ⟨_, _, d', hr', _, h⟩ | ⟨_, h, _⟩ | ⟨_, _, h1, h2, _⟩
  · omega
  · omega
  · rw [run_unique hr hr']; exact h
  · omega
  · omega

theorem wh_end (B : Nat → Int) (n : Nat) : Wh B n n := fun j h1 h2 => by omega

theorem zs9 {B : Nat → Int} {off : Int} {ok : Bool} (hc : B 0 = 43 ∨ B 0 = 45) (d1 : digB (B 1) = true) (d2 : digB (B 2) = true) (c3 : B 3 = 58) (d4 : digB (B 4) = true) (d5 : digB (B 5) = true)
    (c6 : B 6 = 58) (d7 : digB (B 7) = true) (d8 : digB (B 8) = true) (h : ZS B 9 off ok) : off = (two (B 1) (B 2) * 3600 + two (B 4) (B 5) * 60 + two (B 7) (B 8)) * sgn B ∧ ok = true := by
  have hr : IsRun B 1 2 := ⟨fun j hj => by rcases (show j = 0 ∨ j = 1 by omega) with rfl | rfl; exact d1; exact d2, by show digB (B 3) = false; rw [c3]; rfl⟩
  have f3 : Fd B 3 := ⟨c3, d4, d5⟩
  have f6 : Fd B 6 := ⟨c6, d7, d8⟩
  rcases zs_sign hc (by omega) hr h with ⟨_, h, _⟩ | ⟨_, _, h, _⟩ | ⟨_, _, _, h1, h2⟩ | ⟨h, _⟩ | ⟨h, _⟩
  · exact (h f3).elim
  · exact (h f6).elim
  · exact ⟨h1, h2.2 (wh_end B 9)⟩
  · omega
  · omega

theorem zs6 {B : Nat → Int} {off : Int} {ok : Bool} (hc : B 0 = 43 ∨ B 0 = 45) (d1 : digB (B 1) = true) (d2 : digB (B 2) = true) (c3 : B 3 = 58) (d4 : digB (B 4) = true) (d5 : digB (B 5) = true)
    (c6 : B 6 = 0) (h : ZS B 6 off ok) : off = (two (B 1) (B 2) * 3600 + two (B 4) (B 5) * 60) * sgn B ∧ ok = true := by
  have hr : IsRun B 1 2 := ⟨fun j hj => by rcases (show j = 0 ∨ j = 1 by omega) with rfl | rfl; exact d1; exact d2, by show digB (B 3) = false; rw [c3]; rfl⟩
  have f3 : Fd B 3 := ⟨c3, d4, d5⟩
  have f6 : ¬ Fd B 6 := fun f => by have := f.1; omega
  rcases zs_sign hc (by omega) hr h with ⟨_, h, _⟩ | ⟨_, _, _, h1, h2⟩ | ⟨_, _, h, _, _⟩ | ⟨h, _⟩ | ⟨h, _⟩
  · exact (h f3).elim
  · exact ⟨h1, h2.2 (wh_end B 6)⟩
  · exact (f6 h).elim
  · omega
  · omega

theorem zs5 {B : Nat → Int} {off : Int} {ok : Bool} (hc : B 0 = 43 ∨ B 0 = 45) (d1 : digB (B 1) = true) (d2 : digB (B 2) = true) (d3 : digB (B 3) = true) (d4 : digB (B 4) = true)
    (c5 : B 5 = 0) (h : ZS B 5 off ok) : off = (two (B 1) (B 2) * 3600 + two (B 3) (B 4) * 60) * sgn B ∧ ok = true := by
  have hr : IsRun B 1 4 := ⟨fun j hj => by rcases (show j = 0 ∨ j = 1 ∨ j = 2 ∨ j = 3 by omega) with rfl | rfl | rfl | rfl; exact d1; exact d2; exact d3; exact d4, by show digB (B 5) = false; rw [c5]; rfl⟩
  rcases zs_sign hc (by omega) hr h with ⟨h, _⟩ | ⟨h, _⟩ | ⟨h, _⟩ | ⟨_, h1, h2⟩ | ⟨_, h, _⟩
  · omega
  · omega
  · omega
  · exact ⟨h1, h2.2 (wh_end B 5)⟩
  · omega

theorem zs3 {B : Nat → Int} {off : Int} {ok : Bool} (hc : B 0 = 43 ∨ B 0 = 45) (d1 : digB (B 1) = true) (d2 : digB (B 2) = true)
    (c3 : B 3 = 0) (h : ZS B 3 off ok) : off = two (B 1) (B 2) * 3600 * sgn B ∧ ok = true := by
  have hr : IsRun B 1 2 := ⟨fun j hj => by rcases (show j = 0 ∨ j = 1 by omega) with rfl | rfl; exact d1; exact d2, by show digB (B 3) = false; rw [c3]; rfl⟩
  have f3 : ¬ Fd B 3 := fun f => by have := f.1; omega
  rcases zs_sign hc (by omega) hr h with ⟨_, _, h1, h2⟩ | ⟨_, h, _⟩ | ⟨_, h, _⟩ | ⟨h, _⟩ | ⟨h, _⟩
  · exact ⟨h1, h2.2 (wh_end B 3)⟩
  · exact (f3 h).elim
  · exact (f3 h).elim
  · omega
  · omega

theorem bt_bl {T : ByteArray} {l : List Int} (h : bl T = l) (k : Nat) : bt T k = l.getD k 0 := by rw [← bl_getD, h]
theorem size_bl {T : ByteArray} {l : List Int} (h : bl T = l) : T.size = l.length := by rw [← bl_length, h]

theorem tw_bl (n : Int) (h0 : 0 ≤ n) (h1 : n ≤ 99) : bl (strOfNums (tw n)) = tw n :=
  bl_nums _ (by intro c hc; simp [tw] at hc; rcases hc with rfl | rfl <;> omega)

theorem sgn_of {T : ByteArray} {c : Int} (hb : bt T 0 = c) : sgn (bt T) = if c = 45 then -1 else 1 := by unfold sgn; rw [hb]

theorem read9 {T : ByteArray} {c h m s off : Int} {ok : Bool} (hc : c = 43 ∨ c = 45) (h0 : 0 ≤ h) (h1 : h ≤ 99) (m0 : 0 ≤ m) (m1 : m ≤ 59) (s0 : 0 ≤ s) (s1 : s ≤ 59)
    (hb : bl T = c :: (tw h ++ (58 :: (tw m ++ (58 :: tw s))))) (hz : ZS (bt T) T.size off ok) : off = (h * 3600 + m * 60 + s) * (if c = 45 then -1 else 1) ∧ ok = true := by
  have th := tw_digits h h0 h1
  have tm := tw_digits m m0 (by omega)
  have ts := tw_digits s s0 (by omega)
  rw [size_bl hb] at hz
  have b := bt_bl hb
  have b0 : bt T 0 = c := b 0
  have b1 : bt T 1 = 48 + h / 10 := b 1
  have b2 : bt T 2 = 48 + h % 10 := b 2
  have b3 : bt T 3 = 58 := b 3
  have b4 : bt T 4 = 48 + m / 10 := b 4
  have b5 : bt T 5 = 48 + m % 10 := b 5
  have b6 : bt T 6 = 58 := b 6
  have b7 : bt T 7 = 48 + s / 10 := b 7
  have b8 : bt T 8 = 48 + s % 10 := b 8
  have r := zs9 (by rw [b0]; exact hc) (by rw [b1]; exact th.1) (by rw [b2]; exact th.2.1) b3 (by rw [b4]; exact tm.1) (by rw [b5]; exact tm.2.1) b6 (by rw [b7]; exact ts.1) (by rw [b8]; exact ts.2.1) hz
  rw [b1, b2, b4, b5, b7, b8, th.2.2, tm.2.2, ts.2.2, sgn_of b0] at r
  exact r

theorem read6 {T : ByteArray} {c h m off : Int} {ok : Bool} (hc : c = 43 ∨ c = 45) (h0 : 0 ≤ h) (h1 : h ≤ 99) (m0 : 0 ≤ m) (m1 : m ≤ 59)
    (hb : bl T = c :: (tw h ++ (58 :: tw m))) (hz : ZS (bt T) T.size off ok) : off = (h * 3600 + m * 60) * (if c = 45 then -1 else 1) ∧ ok = true := by
  have th := tw_digits h h0 h1
  have tm := tw_digits m m0 (by omega)
  rw [size_bl hb] at hz
  have b := bt_bl hb
  have b0 : bt T 0 = c := b 0
  have b1 : bt T 1 = 48 + h / 10 := b 1
  have b2 : bt T 2 = 48 + h % 10 := b 2
  have b3 : bt T 3 = 58 := b 3
  have b4 : bt T 4 = 48 + m / 10 := b 4
  have b5 : bt T 5 = 48 + m % 10 := b 5
  have b6 : bt T 6 = 0 := b 6
  have r := zs6 (by rw [b0]; exact hc) (by rw [b1]; exact th.1) (by rw [b2]; exact th.2.1) b3 (by rw [b4]; exact tm.1) (by rw [b5]; exact tm.2.1) b6 hz
  rw [b1, b2, b4, b5, th.2.2, tm.2.2, sgn_of b0] at r
  exact r

theorem read5 {T : ByteArray} {c h m off : Int} {ok : Bool} (hc : c = 43 ∨ c = 45) (h0 : 0 ≤ h) (h1 : h ≤ 99) (m0 : 0 ≤ m) (m1 : m ≤ 59)
    (hb : bl T = c :: (tw h ++ tw m)) (hz : ZS (bt T) T.size off ok) : off = (h * 3600 + m * 60) * (if c = 45 then -1 else 1) ∧ ok = true := by
  have th := tw_digits h h0 h1
  have tm := tw_digits m m0 (by omega)
  rw [size_bl hb] at hz
  have b := bt_bl hb
  have b0 : bt T 0 = c := b 0
  have b1 : bt T 1 = 48 + h / 10 := b 1
  have b2 : bt T 2 = 48 + h % 10 := b 2
  have b3 : bt T 3 = 48 + m / 10 := b 3
  have b4 : bt T 4 = 48 + m % 10 := b 4
  have b5 : bt T 5 = 0 := b 5
  have r := zs5 (by rw [b0]; exact hc) (by rw [b1]; exact th.1) (by rw [b2]; exact th.2.1) (by rw [b3]; exact tm.1) (by rw [b4]; exact tm.2.1) b5 hz
  rw [b1, b2, b3, b4, th.2.2, tm.2.2, sgn_of b0] at r
  exact r

theorem read3 {T : ByteArray} {c h off : Int} {ok : Bool} (hc : c = 43 ∨ c = 45) (h0 : 0 ≤ h) (h1 : h ≤ 99)
    (hb : bl T = c :: tw h) (hz : ZS (bt T) T.size off ok) : off = h * 3600 * (if c = 45 then -1 else 1) ∧ ok = true := by
  have th := tw_digits h h0 h1
  rw [size_bl hb] at hz
  have b := bt_bl hb
  have b0 : bt T 0 = c := b 0
  have b1 : bt T 1 = 48 + h / 10 := b 1
  have b2 : bt T 2 = 48 + h % 10 := b 2
  have b3 : bt T 3 = 0 := b 3
  have r := zs3 (by rw [b0]; exact hc) (by rw [b1]; exact th.1) (by rw [b2]; exact th.2.1) b3 hz
  rw [b1, b2, th.2.2, sgn_of b0] at r
  exact r

end Go.Proofs.Qxb6603772a.Zn
