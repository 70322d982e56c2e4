/- 'FnTallySpec' returns true, whatever the input. -/
import Derived.Test.Qxb6603393aRows
import Derived.Test.Qxb6603393aTally12
import Derived.Test.Qxb6603393aOpen
import Derived.WalkKit
import Derived.ProofKit
import Derived.OpenShut
namespace Go.Proofs.Qxb6603393a.fnTallySpec
open Go.ChangeShapes Go.WideShapes Go.ChangeAt Go.RowKit
open Go.Proofs.Qxb6603393a.Ty Go.Proofs.Qxb6603393a.Op
set_option linter.unusedVariables false

theorem own : ownKnob Try.prog.godebug = none := by kernel_rfl

/-- The row's post from 'Below': nothing older than the call has turned. -/
theorem post_of_below {H : Type} {enc : TypeId × Value → H} {P : Program} {f : Func} {s : ChangeSpec} {apart fresh handsOn : Bool} {W W' : World} {args : Array Value} {v : Value} {ds gs : List (DataW H)} {before : List MemPlace}
    (hW : DataW.Whole enc P f.params.toList s.vars apart W args.toList ds gs before)
    (hres : ∀ (b : Nat) (sp : Nat → Bool) (hd : Bool), DataW.TrodAll enc P W' b sp hd f.resultTypes.toList (v.resultList f.resultTypes.size) (s.fn H (ds ++ gs)).results [])
    (hargs : DataW.TrodAll enc P W' 0 (fun b => decide (b < W.heap.size)) true f.params.toList args.toList (s.fn H (ds ++ gs)).args before)
    (hvars : DataW.TrodVars enc P W' (fun b => decide (b < W.heap.size)) s.vars (s.fn H (ds ++ gs)).vars [])
    (hk : W.keptBut W' (· ∈ before)) :
    s.post enc P f apart fresh handsOn false W args v W' :=
  ⟨ds, gs, before, [], before, [], hW, hres _ _ _, hargs, hvars, World.keptBut_mono (fun p hp => ⟨hp, Or.inr (Or.inl hp)⟩) hk, fun h => by cases h⟩

theorem walk (W : World) (id n t ch cs dv dr : Int) (dd : Bool) (ti : Int) (lt : Bool) (c r : Int) (v3 : Value) (hn : n ≤ 9223372036854775807) (wc : (Lit.int .i64 c).wf = true)
    (hm : (v3 = .slice none 0 0) ∨ ∃ (ad : Addr) (m cap : Nat) (V A R : Nat → Int) (L : Nat → Bool), v3 = .slice (some ad) m cap ∧ m ≤ 9223372036854775807 ∧ Src ad m V A R L W ∧ (0 < m → ad.block < W.heap.size)) :
    Calls Try.prog 6 #[.agg #[.int .i64 id, .int .i64 n, .int .i64 t, .int .i64 ch, .int .i64 cs, .bool dd, .int .i64 dv, .int .i64 dr, .int .i64 ti, .bool lt], .int .i64 c, .int .i64 r, v3] W fun e w' => e = .returned (.bool true) ∧ Below W.heap.size W w' := by
  simp [Lit.wf, IntKind.min, IntKind.max, IntKind.signed, IntKind.bits] at wc
  rcases hm with rfl | ⟨ad, m, cap, V, A, R, L, rfl, hm, hs, hb⟩
  · exact law6_any id n t ch cs dv dr dd ti lt c r none ⟨0, 0, none⟩ 0 0 (fun _ => 0) (fun _ => 0) (fun _ => 0) (fun _ => false) W (by omega) (by omega) (fun i hi => by omega) (by omega) hn (by omega) (by omega)
  · exact law6_any id n t ch cs dv dr dd ti lt c r (some ad) ad m cap V A R L W hm (fun _ => rfl) hs hb hn (by omega) (by omega)

set_option maxRecDepth 100000 in
theorem lifted (os : Os) (started : os.Started) (H : Type) (enc : TypeId × Value → H) :
    ReturnsInHanded {} Try.checked os 6 .any (Rows.fnTallySpecSpec.pre6 enc Try.prog Try.f6 Rows.fnTallySpecRow.domain false) (Rows.fnTallySpecSpec.post enc Try.prog Try.f6 false true false false) := by
  refine returnsInHanded_of_change (C := Try.checked) own started (by kernel_rfl) Try.func6
    (ChangeSpec.witness6 (enc := enc) (C := Try.checked) false ⟨#[], #[.agg #[.int .i64 0, .int .i64 0, .int .i64 0, .int .i64 0, .int .i64 0, .bool false, .int .i64 0, .int .i64 0, .int .i64 0, .bool false], .int .i64 0, .int .i64 0, .slice none 0 0], []⟩ 8 (by kernel_rfl) (by kernel_rfl) (by kernel_rfl) (by kernel_rfl)) ?_
  intro W base args ds gs before hval0 hW hcnd _
  have hval : ∀ (j : Nat) t v, Try.f6.params[j]? = some t → args[j]? = some v → Value.okWide Try.prog W .any base t v := hval0
  have hW' := hW
  obtain ⟨p, q, hA0, hV, rfl, hfz, hnd⟩ := hW
  have hA : DataW.TrodAll enc Try.prog W 0 (fun _ => true) true Try.f6.params.toList args.toList ds p := hA0
  rw [Try.params6] at hA hval
  obtain ⟨v0, vs0, d0, ds0, p0, q0, hargs, rfl, rfl, h0, r0⟩ := trodAll_cons hA
  obtain ⟨v1, vs1, d1, ds1, p1, q1, rfl, rfl, rfl, h1, r1⟩ := trodAll_cons r0
  obtain ⟨v2, vs2, d2, ds2, p2, q2, rfl, rfl, rfl, h2, r2⟩ := trodAll_cons r1
  obtain ⟨v3, vs3, d3, ds3, p3, q3, rfl, rfl, rfl, h3, r3⟩ := trodAll_cons r2
  obtain ⟨rfl, rfl, rfl⟩ := trodAll_nil r3
  obtain rfl : args = #[v0, v1, v2, v3] := by cases args; simp_all
  obtain ⟨rfl, rfl⟩ := trodVars_none hV
  obtain ⟨id, n, t, ch, cs, dv, dr, dd, ti, lt, rfl, hn⟩ := open_state (hval 0 39 v0 rfl rfl) h0
  obtain ⟨a1, rfl, rfl, rfl, w1⟩ := open_int Try.underlying3 (hval 1 3 v1 rfl rfl) h1
  obtain ⟨a2, rfl, rfl, rfl, w2⟩ := open_int Try.underlying3 (hval 2 3 v2 rfl rfl) h2
  have hm := open_msgs (hval 3 40 v3 rfl rfl) h3
  clear hA0 hval0
  simp only [List.append_nil] at hW'
  have hlt := hW'.lt
  refine (walk W id n t ch cs dv dr dd ti lt a1 a2 v3 hn w1 hm).mono fun e W' ⟨he, hg⟩ => ?_
  subst he
  have k0 := Below.trod laid (by kernel_rfl) (of_decide_eq_true (by kernel_rfl)) h0 hg (fun x hx => hlt x (by simp [hx]))
  have k3 := Below.trod laid (by kernel_rfl) (of_decide_eq_true (by kernel_rfl)) h3 hg (fun x hx => hlt x (by simp [hx]))
  have hk := trodAll_cons_mk k0 (trodAll_cons_mk (shut_int Try.underlying3 w1) (trodAll_cons_mk (shut_int Try.underlying3 w2) (trodAll_cons_mk k3 trodAll_mk0)))
  simp only [List.append_nil] at hk
  exact ⟨_, rfl, post_of_below hW' (fun _ _ _ => (trodAll_cons_mk (shut_bool Try.underlying4 _) trodAll_mk0)) hk rfl (hg.frame _)⟩

theorem over : Rows.fnTallySpecRow.holds Try.pinned (OpenSpec.ofChange Rows.fnTallySpecSpec) :=
  OpenClaim.holds_of_wide 6 Try.f6 rfl rfl rfl rfl rfl rfl rfl ⟨rfl, rfl, rfl, rfl, rfl⟩ rfl rfl rfl rfl rfl (by kernel_rfl) Try.func6 (by kernel_rfl)
    (of_decide_eq_true (by kernel_rfl)) (by unfold Func.isWrapper; first | (rw [if_pos (by decide +kernel)]; kernel_rfl) | (rw [if_neg (by decide +kernel)]; exact ⟨rfl, rfl⟩))
    (fun os started H enc _ => lifted os started H enc)

/-- ████ THE STATEMENT ████ -/
theorem proved : Rows.FnTallySpecSaid :=
  over
#print axioms proved
end Go.Proofs.Qxb6603393a.fnTallySpec
