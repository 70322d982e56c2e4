/- 'FnZoneOffsetMatchesModel' returns true, whatever the input. -/
import Derived.Test.Qxb6603772aRows
import Derived.Test.Qxb6603772aZone5
import Derived.Test.Qxb6603772aLaw4
import Derived.WalkKit
import Derived.ProofKit
import Derived.OpenShut
import Derived.ShutString
namespace Go.Proofs.Qxb6603772a.fnZoneOffsetMatchesModel
open Go.ChangeShapes Go.WideShapes Go.ChangeAt Go.RowKit
open Go.ChangeMaps (open_string shut_string)
set_option linter.unusedVariables false      -- a walk need not use every 'w<i>' (that an integer argument fits its kind)

theorem own : ownKnob Try.prog.godebug = none := by kernel_rfl

/-! ### STEP 1: THE WALK: the Go text returns true. 'Grown w w'': the world has at most new blocks (Derived/RowKit3.lean). Part the cases AHEAD of 'go_enter' where a test parts the walk; take each callee by a contract of your own. -/
theorem bytes9 (a0 : ByteArray) (w0 : a0.size ≤ maxLen) (w : World) :
    Calls Try.prog 9 #[.string a0] w fun e w' => e = .returned (.bool (decide (a0.size ≤ 1048576))) ∧ w' = w := by
  unfold maxLen at w0
  by_cases h : a0.size ≤ 1048576
  · go_enter Try.func9, Try.ntmps9
    go_wp2
    go_ret
    exact ⟨by simp [h], rfl⟩
  · go_enter Try.func9, Try.ntmps9
    go_wp2
    go_ret
    exact ⟨by simp [h], rfl⟩

theorem walk (a0 : ByteArray) (w0 : a0.size ≤ maxLen) (w : World) :
    Calls Try.prog 3 #[.string a0] w fun e w' => e = .returned (.bool true) ∧ Grown w w' := by
  have w1 := w0
  unfold maxLen at w1
  by_cases h : a0.size ≤ 1048576
  · have hb : decide (a0.size ≤ 1048576) = true := by simpa using h
    go_enter Try.func3, Try.ntmps3
    go_wp2_with (fail)
    refine (bytes9 _ w0 _).mono ?_
    rintro e w2 ⟨rfl, hw2⟩
    rw [hw2, hb]
    clear hw2
    go_wp2_with (fail)
    refine (Zn.ZZzone_any _ _ w0).mono ?_
    rintro e w3 ⟨⟨off, ok, rfl, hz⟩, n3, hw3⟩
    subst hw3
    have HZ : Hid (Zn.ZS (PlainAid.bt a0) a0.size off ok) := hz
    clear hz
    go_wp2_with (fail)
    refine (Zn.head_any _ _ w0).mono ?_
    rintro e w4 ⟨⟨v, rfl, hv⟩, n4, hw4⟩
    subst hw4
    have HO : Hid (off = v) := Zn.same_off HZ.out hv
    clear hv
    rw [← HO.out]
    go_wp2_with (fail)
    refine (Zn.acc_any _ _ w0).mono ?_
    rintro e w5 ⟨⟨b, rfl, hb5⟩, hw5⟩
    rw [hw5, ← Zn.same_ok HZ.out hb5]
    clear hw5
    go_wp2_with (fail)
    go_ret
    exact ⟨rfl, Zn.Grown_drewN (Zn.Grown_drewN (Grown.refl w) n3) n4⟩
  · have hb : decide (a0.size ≤ 1048576) = false := by simpa using h
    go_enter Try.func3, Try.ntmps3
    go_wp2_with (fail)
    refine (bytes9 _ w0 _).mono ?_
    rintro e w2 ⟨rfl, hw2⟩
    rw [hw2, hb]
    clear hw2
    go_wp2_with (fail)
    go_ret
    exact ⟨rfl, Grown.refl _⟩

/-! ### THE ROW's STEP: WRITTEN OUT: LEAVE IT -/
set_option maxRecDepth 100000 in
theorem lifted (os : Os) (started : os.Started) (H : Type) (enc : TypeId × Value → H) :
    ReturnsInHanded {} Try.checked os 3 .any (Rows.fnZoneOffsetMatchesModelSpec.pre6 enc Try.prog Try.f3 Rows.fnZoneOffsetMatchesModelRow.domain false) (Rows.fnZoneOffsetMatchesModelSpec.post enc Try.prog Try.f3 false true false false) := by
  refine returnsInHanded_of_change (C := Try.checked) own started (by kernel_rfl) Try.func3
    (ChangeSpec.witness6 (enc := enc) (C := Try.checked) false ⟨#[], #[.string ByteArray.empty], []⟩ 8 (by kernel_rfl) (by kernel_rfl) (by kernel_rfl) (by kernel_rfl)) ?_
  intro W base args ds gs before hval0 hW hcnd _
  have hval : ∀ (j : Nat) t v, Try.f3.params[j]? = some t → args[j]? = some v → Value.okWide Try.prog W .any base t v := hval0
  have hW' := hW
  obtain ⟨p, q, hA0, hV, rfl, hfz, hnd⟩ := hW
  have hA : DataW.TrodAll enc Try.prog W 0 (fun _ => true) true Try.f3.params.toList args.toList ds p := hA0
  rw [Try.params3] at hA hval
  obtain ⟨v0, vs0, d0, ds0, p0, q0, hargs, rfl, rfl, h0, r0⟩ := trodAll_cons hA
  obtain ⟨rfl, rfl, rfl⟩ := trodAll_nil r0
  obtain rfl : args = #[v0] := by cases args; simp_all
  obtain ⟨rfl, rfl⟩ := trodVars_none hV
  obtain ⟨a0, rfl, rfl, rfl, w0⟩ := open_string Try.underlying9 (hval 0 9 v0 rfl rfl) h0
  clear hA0 hval0
  simp only [List.append_nil] at hW'
  refine (walk a0 w0 W).mono fun e W' ⟨he, hg⟩ => ?_
  subst he
  exact ⟨_, rfl, post_of_same (pa := []) (pv := []) hW' (fun _ _ _ => (trodAll_cons_mk (shut_bool Try.underlying4 _) trodAll_mk0)) (fun sp _ => (trodAll_cons_mk (shut_string Try.underlying9 w0) trodAll_mk0)) (fun _ _ => rfl) rfl
    (hg.frame _) hg.2.1 (ok_one (by kernel_rfl) rfl (okWide_bool_mk Try.underlying4 _))⟩

theorem over : Rows.fnZoneOffsetMatchesModelRow.holds Try.pinned (OpenSpec.ofChange Rows.fnZoneOffsetMatchesModelSpec) :=
  OpenClaim.holds_of_wide 3 Try.f3 rfl rfl rfl rfl rfl rfl rfl ⟨rfl, rfl, rfl, rfl, rfl⟩ rfl rfl rfl rfl rfl (by kernel_rfl) Try.func3 (by kernel_rfl)
    (of_decide_eq_true (by kernel_rfl)) (by unfold Func.isWrapper; first | (rw [if_pos (by decide +kernel)]; kernel_rfl) | (rw [if_neg (by decide +kernel)]; exact ⟨rfl, rfl⟩))
    (fun os started H enc _ => lifted os started H enc)

/-- ████ THE STATEMENT ████ -/
theorem proved : Rows.FnZoneOffsetMatchesModelSaid :=
  over
#print axioms proved
end Go.Proofs.Qxb6603772a.fnZoneOffsetMatchesModel
