/- The walk of FnZoneOffsetReadsWhatIsWritten. -/
import Derived.Test.Qxb6603772aZone5
import Derived.Test.Qxb6603772aWritten
namespace Go.Proofs.Qxb6603772a.Zn
set_option linter.unusedVariables false
set_option linter.unusedSimpArgs false
open Go.ChangeShapes Go.WideShapes Go.ChangeAt Go.RowKit Go.PlainAid
open Go.Proofs.Qxb6603772a.Bs Go.Proofs.Qxb6603772a.Wk

theorem lit_bl (c : UInt8) : bl ⟨#[c]⟩ = [(c.toNat : Int)] := rfl

set_option maxHeartbeats 1000000 in
theorem zr_plus (a : Int) (w : World) (h0 : 0 ≤ a) (h1 : a ≤ 359999) :
    Calls Try.prog 4 #[.int .i64 a] w fun e w' => e = .returned (.bool true) ∧ Grown w w' := by
  go_enter Try.func4, Try.ntmps4
  go_wp2_with fail
  refine (two_any _ _ (by omega) (by omega)).mono ?_
  rintro e w1 ⟨rfl, hg1⟩
  have ssh : (strOfNums (tw (a / 3600))).size = 2 := rfl
  have Hsh : Hid (bl (strOfNums (tw (a / 3600))) = tw (a / 3600)) := tw_bl _ (by omega) (by omega)
  generalize strOfNums (tw (a / 3600)) = sh at *
  go_wp2_with fail
  refine (two_any _ _ (by omega) (by omega)).mono ?_
  rintro e w2 ⟨rfl, hg2⟩
  have ssm : (strOfNums (tw (a / 60 % 60))).size = 2 := rfl
  have Hsm : Hid (bl (strOfNums (tw (a / 60 % 60))) = tw (a / 60 % 60)) := tw_bl _ (by omega) (by omega)
  generalize strOfNums (tw (a / 60 % 60)) = sm at *
  go_wp2_with fail
  refine (two_any _ _ (by omega) (by omega)).mono ?_
  rintro e w3 ⟨rfl, hg3⟩
  have sss : (strOfNums (tw (a % 60))).size = 2 := rfl
  have Hss : Hid (bl (strOfNums (tw (a % 60))) = tw (a % 60)) := tw_bl _ (by omega) (by omega)
  generalize strOfNums (tw (a % 60)) = ss at *
  have hg := Gw.trans (Gw.trans hg1 hg2) hg3
  clear hg1 hg2 hg3
  go_wp2_with fail
  refine (ZZzone_any _ _ (by rw [ByteArray.size_append, ByteArray.size_append, ByteArray.size_append, ByteArray.size_append, ByteArray.size_append]; simp only [ssh, ssm, sss]; decide)).mono ?_
  rintro e w4 ⟨⟨off, ok, rfl, hz⟩, n4, hw4⟩
  have hoff : off = a ∧ ok = true := by
    have r := read9 (c := 43) (h := a / 3600) (m := a / 60 % 60) (s := a % 60) (by omega) (by omega) (by omega) (by omega) (by omega) (by omega) (by omega) (by simp only [bl_append, lit_bl, Hsh.out, Hsm.out, Hss.out]; rfl) hz
    obtain ⟨r1, r2⟩ := r
    refine ⟨?_, r2⟩
    rw [r1]
    simp
    omega
  obtain ⟨hoff1, hoff2⟩ := hoff
  rw [hoff1, hoff2]
  clear hoff1 hoff2
  subst hw4
  clear hz
  by_cases m60 : a % 60 = 0
  · have m60' : (a % 60 == 0) = true := by simpa using m60
    have HM : Hid (a % 60 = 0) := m60
    clear m60
    go_wp2_with fail
    refine (ZZzone_any _ _ (by rw [ByteArray.size_append, ByteArray.size_append, ByteArray.size_append]; simp only [ssh, ssm, sss]; decide)).mono ?_
    rintro e w5 ⟨⟨off, ok, rfl, hz⟩, n5, hw5⟩
    have hoff : off = a ∧ ok = true := by
      have hM := HM.out
      have r := read6 (c := 43) (h := a / 3600) (m := a / 60 % 60) (by omega) (by omega) (by omega) (by omega) (by omega) (by simp only [bl_append, lit_bl, Hsh.out, Hsm.out, Hss.out]; rfl) hz
      obtain ⟨r1, r2⟩ := r
      refine ⟨?_, r2⟩
      rw [r1]
      simp
      omega
    obtain ⟨hoff1, hoff2⟩ := hoff
    rw [hoff1, hoff2]
    clear hoff1 hoff2
    subst hw5
    clear hz
    go_wp2_with fail
    refine (ZZzone_any _ _ (by rw [ByteArray.size_append, ByteArray.size_append]; simp only [ssh, ssm, sss]; decide)).mono ?_
    rintro e w6 ⟨⟨off, ok, rfl, hz⟩, n6, hw6⟩
    have hoff : off = a ∧ ok = true := by
      have hM := HM.out
      have r := read5 (c := 43) (h := a / 3600) (m := a / 60 % 60) (by omega) (by omega) (by omega) (by omega) (by omega) (by simp only [bl_append, lit_bl, Hsh.out, Hsm.out, Hss.out]; rfl) hz
      obtain ⟨r1, r2⟩ := r
      refine ⟨?_, r2⟩
      rw [r1]
      simp
      omega
    obtain ⟨hoff1, hoff2⟩ := hoff
    rw [hoff1, hoff2]
    clear hoff1 hoff2
    subst hw6
    clear hz
    by_cases m36 : a % 3600 = 0
    · have m36' : (a % 3600 == 0) = true := by simpa using m36
      have HN : Hid (a % 3600 = 0) := m36
      clear m36
      go_wp2_with fail
      refine (ZZzone_any _ _ (by rw [ByteArray.size_append]; simp only [ssh, ssm, sss]; decide)).mono ?_
      rintro e w7 ⟨⟨off, ok, rfl, hz⟩, n7, hw7⟩
      have hoff : off = a ∧ ok = true := by
        have hN := HN.out
        have r := read3 (c := 43) (h := a / 3600) (by omega) (by omega) (by omega) (by simp only [bl_append, lit_bl, Hsh.out, Hsm.out, Hss.out]; rfl) hz
        obtain ⟨r1, r2⟩ := r
        refine ⟨?_, r2⟩
        rw [r1]
        simp
        omega
      obtain ⟨hoff1, hoff2⟩ := hoff
      rw [hoff1, hoff2]
      clear hoff1 hoff2
      subst hw7
      clear hz
      go_wp2_with fail
      go_ret
      exact ⟨rfl, hg⟩
    · have m36' : (a % 3600 == 0) = false := by simpa using m36
      clear m36
      go_wp2_with fail
      go_ret
      exact ⟨rfl, hg⟩
  · have m60' : (a % 60 == 0) = false := by simpa using m60
    have m36' : (a % 3600 == 0) = false := by simp; omega
    clear m60
    go_wp2_with fail
    go_ret
    exact ⟨rfl, hg⟩

set_option maxHeartbeats 1000000 in
theorem zr_minus (a : Int) (w : World) (h0 : 0 < a) (h1 : a ≤ 359999) :
    Calls Try.prog 4 #[.int .i64 (-a)] w fun e w' => e = .returned (.bool true) ∧ Grown w w' := by
  go_enter Try.func4, Try.ntmps4
  go_wp2_with fail
  refine (two_any _ _ (by omega) (by omega)).mono ?_
  rintro e w1 ⟨rfl, hg1⟩
  have ssh : (strOfNums (tw (a / 3600))).size = 2 := rfl
  have Hsh : Hid (bl (strOfNums (tw (a / 3600))) = tw (a / 3600)) := tw_bl _ (by omega) (by omega)
  generalize strOfNums (tw (a / 3600)) = sh at *
  go_wp2_with fail
  refine (two_any _ _ (by omega) (by omega)).mono ?_
  rintro e w2 ⟨rfl, hg2⟩
  have ssm : (strOfNums (tw (a / 60 % 60))).size = 2 := rfl
  have Hsm : Hid (bl (strOfNums (tw (a / 60 % 60))) = tw (a / 60 % 60)) := tw_bl _ (by omega) (by omega)
  generalize strOfNums (tw (a / 60 % 60)) = sm at *
  go_wp2_with fail
  refine (two_any _ _ (by omega) (by omega)).mono ?_
  rintro e w3 ⟨rfl, hg3⟩
  have sss : (strOfNums (tw (a % 60))).size = 2 := rfl
  have Hss : Hid (bl (strOfNums (tw (a % 60))) = tw (a % 60)) := tw_bl _ (by omega) (by omega)
  generalize strOfNums (tw (a % 60)) = ss at *
  have hg := Gw.trans (Gw.trans hg1 hg2) hg3
  clear hg1 hg2 hg3
  go_wp2_with fail
  refine (ZZzone_any _ _ (by rw [ByteArray.size_append, ByteArray.size_append, ByteArray.size_append, ByteArray.size_append, ByteArray.size_append]; simp only [ssh, ssm, sss]; decide)).mono ?_
  rintro e w4 ⟨⟨off, ok, rfl, hz⟩, n4, hw4⟩
  have hoff : off = (-a) ∧ ok = true := by
    have r := read9 (c := 45) (h := a / 3600) (m := a / 60 % 60) (s := a % 60) (by omega) (by omega) (by omega) (by omega) (by omega) (by omega) (by omega) (by simp only [bl_append, lit_bl, Hsh.out, Hsm.out, Hss.out]; rfl) hz
    obtain ⟨r1, r2⟩ := r
    refine ⟨?_, r2⟩
    rw [r1]
    simp
    omega
  obtain ⟨hoff1, hoff2⟩ := hoff
  rw [hoff1, hoff2]
  clear hoff1 hoff2
  subst hw4
  clear hz
  by_cases m60 : a % 60 = 0
  · have m60' : (a % 60 == 0) = true := by simpa using m60
    have HM : Hid (a % 60 = 0) := m60
    clear m60
    go_wp2_with fail
    refine (ZZzone_any _ _ (by rw [ByteArray.size_append, ByteArray.size_append, ByteArray.size_append]; simp only [ssh, ssm, sss]; decide)).mono ?_
    rintro e w5 ⟨⟨off, ok, rfl, hz⟩, n5, hw5⟩
    have hoff : off = (-a) ∧ ok = true := by
      have hM := HM.out
      have r := read6 (c := 45) (h := a / 3600) (m := a / 60 % 60) (by omega) (by omega) (by omega) (by omega) (by omega) (by simp only [bl_append, lit_bl, Hsh.out, Hsm.out, Hss.out]; rfl) hz
      obtain ⟨r1, r2⟩ := r
      refine ⟨?_, r2⟩
      rw [r1]
      simp
      omega
    obtain ⟨hoff1, hoff2⟩ := hoff
    rw [hoff1, hoff2]
    clear hoff1 hoff2
    subst hw5
    clear hz
    go_wp2_with fail
    refine (ZZzone_any _ _ (by rw [ByteArray.size_append, ByteArray.size_append]; simp only [ssh, ssm, sss]; decide)).mono ?_
    rintro e w6 ⟨⟨off, ok, rfl, hz⟩, n6, hw6⟩
    have hoff : off = (-a) ∧ ok = true := by
      have hM := HM.out
      have r := read5 (c := 45) (h := a / 3600) (m := a / 60 % 60) (by omega) (by omega) (by omega) (by omega) (by omega) (by simp only [bl_append, lit_bl, Hsh.out, Hsm.out, Hss.out]; rfl) hz
      obtain ⟨r1, r2⟩ := r
      refine ⟨?_, r2⟩
      rw [r1]
      simp
      omega
    obtain ⟨hoff1, hoff2⟩ := hoff
    rw [hoff1, hoff2]
    clear hoff1 hoff2
    subst hw6
    clear hz
    by_cases m36 : a % 3600 = 0
    · have m36' : (a % 3600 == 0) = true := by simpa using m36
      have HN : Hid (a % 3600 = 0) := m36
      clear m36
      go_wp2_with fail
      refine (ZZzone_any _ _ (by rw [ByteArray.size_append]; simp only [ssh, ssm, sss]; decide)).mono ?_
      rintro e w7 ⟨⟨off, ok, rfl, hz⟩, n7, hw7⟩
      have hoff : off = (-a) ∧ ok = true := by
        have hN := HN.out
        have r := read3 (c := 45) (h := a / 3600) (by omega) (by omega) (by omega) (by simp only [bl_append, lit_bl, Hsh.out, Hsm.out, Hss.out]; rfl) hz
        obtain ⟨r1, r2⟩ := r
        refine ⟨?_, r2⟩
        rw [r1]
        simp
        omega
      obtain ⟨hoff1, hoff2⟩ := hoff
      rw [hoff1, hoff2]
      clear hoff1 hoff2
      subst hw7
      clear hz
      go_wp2_with fail
      go_ret
      exact ⟨rfl, hg⟩
    · have m36' : (a % 3600 == 0) = false := by simpa using m36
      clear m36
      go_wp2_with fail
      go_ret
      exact ⟨rfl, hg⟩
  · have m60' : (a % 60 == 0) = false := by simpa using m60
    have m36' : (a % 3600 == 0) = false := by simp; omega
    clear m60
    go_wp2_with fail
    go_ret
    exact ⟨rfl, hg⟩

theorem zr_any (sec : Int) (w : World) : Calls Try.prog 4 #[.int .i64 sec] w fun e w' => e = .returned (.bool true) ∧ Grown w w' := by
  by_cases h1 : sec < -359999
  · go_enter Try.func4, Try.ntmps4
    go_wp2_with fail
    go_ret
    exact ⟨rfl, Grown.refl _⟩
  by_cases h2 : 359999 < sec
  · go_enter Try.func4, Try.ntmps4
    go_wp2_with fail
    go_ret
    exact ⟨rfl, Grown.refl _⟩
  by_cases h3 : 0 ≤ sec
  · exact zr_plus sec w h3 (by omega)
  · have := zr_minus (-sec) w (by omega) (by omega)
    rw [Int.neg_neg] at this
    exact this

end Go.Proofs.Qxb6603772a.Zn
