/- The walk of runTally. -/
import Derived.Test.Qxb6603393aTally5
import Derived.Deep.RegionHeld3
namespace Go.Proofs.Qxb6603393a.Ty
set_option linter.unusedVariables false
set_option linter.unusedSimpArgs false
open Go.ChangeShapes Go.WideShapes Go.ChangeAt Go.RowKit

/-- What tallyMessages answers. -/
def Made (sv : Value) (m : Nat) (V A R : Nat → Int) (L : Nat → Bool) (B : Nat) (w : World) : Prop :=
  ∀ wx, Below B w wx → Calls Try.prog 32 #[sv] wx fun e w' => e = .returned (.slice (some ⟨wx.heap.size, 0, none⟩) m m) ∧ Msgs wx.heap.size m V A R L w' ∧ wx.heap.size < w'.heap.size ∧ Below wx.heap.size wx w'

/-- The state's ten cells. -/
def St (b : Nat) (id n t ch cs dv dr : Int) (dd : Bool) (ti : Int) (lt : Bool) (w : World) : Prop :=
  w.cell? ⟨b, 0, none⟩ = some (.int .i64 id) ∧ w.cell? ⟨b, 1, none⟩ = some (.int .i64 n) ∧ w.cell? ⟨b, 2, none⟩ = some (.int .i64 t) ∧ w.cell? ⟨b, 3, none⟩ = some (.int .i64 ch) ∧ w.cell? ⟨b, 4, none⟩ = some (.int .i64 cs) ∧
  w.cell? ⟨b, 5, none⟩ = some (.bool dd) ∧ w.cell? ⟨b, 6, none⟩ = some (.int .i64 dv) ∧ w.cell? ⟨b, 7, none⟩ = some (.int .i64 dr) ∧ w.cell? ⟨b, 8, none⟩ = some (.int .i64 ti) ∧ w.cell? ⟨b, 9, none⟩ = some (.bool lt)

theorem St.of {b : Nat} {id n t ch cs dv dr : Int} {dd : Bool} {ti : Int} {lt : Bool} {w : World} {ty : TypeId} {fr : Nat × Nat}
    (h : w.heap[b]? = some (.cells #[.int .i64 id, .int .i64 n, .int .i64 t, .int .i64 ch, .int .i64 cs, .bool dd, .int .i64 dv, .int .i64 dr, .int .i64 ti, .bool lt] ty fr)) : St b id n t ch cs dv dr dd ti lt w :=
  ⟨blk_cell h, blk_cell h, blk_cell h, blk_cell h, blk_cell h, blk_cell h, blk_cell h, blk_cell h, blk_cell h, blk_cell h⟩

theorem St.below {b B : Nat} {id n t ch cs dv dr : Int} {dd : Bool} {ti : Int} {lt : Bool} {w w' : World} (h : St b id n t ch cs dv dr dd ti lt w) (hb : Below B w w') (hB : b < B) : St b id n t ch cs dv dr dd ti lt w' := by
  have e : ∀ j, w'.cell? ⟨b, j, none⟩ = w.cell? ⟨b, j, none⟩ := fun j => hb.cell (p := ⟨b, j, none⟩) hB
  unfold St at *
  simp only [e]
  exact h

theorem two_new (w : World) (o1 o2 : Obj) : ∃ W, W = (w.alloc o1).alloc o2 ∧ W.heap.size = w.heap.size + 2 ∧ W.heap[w.heap.size]? = some o1 ∧ W.heap[w.heap.size + 1]? = some o2 ∧ Below w.heap.size w W := by
  refine ⟨_, rfl, by simp, ?_, ?_, ((Below.refl _ _).alloc (Nat.le_refl _) _).alloc (by simp) _⟩
  · rw [Below.heap_alloc _ _ _ (by simp)]; exact alloc_at _ _
  · have := alloc_at (w.alloc o1) o2
    rwa [show (w.alloc o1).heap.size = w.heap.size + 1 by simp] at this

set_option maxHeartbeats 1000000 in
theorem runTally_any (sv : Value) (m : Nat) (V A R : Nat → Int) (L : Nat → Bool) (c r id n t ch cs dv dr : Int) (dd : Bool) (ti : Int) (lt : Bool) (o : Out) (w : World)
    (ho : o = Ton V A R L m c r id n t ch cs dv dr dd ti lt) (hmsg : Made sv m V A R L w.heap.size w) (hml : m ≤ 32768)
    (hn : 1 ≤ n) (hn2 : n ≤ 9223372036854775807) (ht : 0 ≤ t) (htn : t < n) (hc1 : -9223372036854775808 ≤ c) (hc2 : c ≤ 9223372036854775807) :
    Calls Try.prog 22 #[.agg #[.int .i64 id, .int .i64 n, .int .i64 t, .int .i64 ch, .int .i64 cs, .bool dd, .int .i64 dv, .int .i64 dr, .int .i64 ti, .bool lt], .int .i64 c, .int .i64 r, sv] w fun e w' =>
      e = .returned (.agg #[.int .i64 o.ch, .int .i64 o.cs, .bool o.dd, .int .i64 o.dv, .int .i64 o.dr, .int .i64 o.ti]) ∧ Below w.heap.size w w' := by
  have HZ : Hid (∀ g wx, g < wx.heap.size → Msgs g m V A R L wx → Calls Try.prog 31 #[.int .i64 id, .int .i64 n, .int .i64 t, .int .i64 ch, .int .i64 cs, .bool dd, .int .i64 dv, .int .i64 dr, .int .i64 ti, .bool lt, .int .i64 c, .int .i64 r, .slice (some ⟨g, 0, none⟩) m m] wx fun e w' => e = .returned (.tuple #[.int .i64 o.ch, .int .i64 o.cs, .bool o.dd, .int .i64 o.dv, .int .i64 o.dr, .int .i64 o.ti]) ∧ Below wx.heap.size wx w') :=
    fun g wx hg hm => ZZTally_any g m V A R L c r id n t ch cs dv dr dd ti lt o wx ho hg hm hml hn hn2 ht htn hc1 hc2
  have HM : Hid (Made sv m V A R L w.heap.size w) := hmsg
  clear hmsg ho hml hn hn2 ht htn hc1 hc2
  generalize o.ch = xch at *
  generalize o.cs = xcs at *
  generalize o.dd = xdd at *
  generalize o.dv = xdv at *
  generalize o.dr = xdr at *
  generalize o.ti = xti at *
  go_enter Try.func22, Try.ntmps22
  go_upto_region 1 with fail
  obtain ⟨W, hW, hsz, hb1, hb2, hbw⟩ := two_new w (.cells #[.int .i64 id, .int .i64 n, .int .i64 t, .int .i64 ch, .int .i64 cs, .bool dd, .int .i64 dv, .int .i64 dr, .int .i64 ti, .bool lt] 39) (.cells #[.int .i64 0, .int .i64 0, .bool false, .int .i64 0, .int .i64 0, .int .i64 0] 44)
  rw [← hW]
  generalize hB : w.heap.size = b at *
  have HS := St.of hb1
  have H32 : Hid (Calls Try.prog 32 #[sv] W.drew fun e w' => e = .returned (.slice (some ⟨W.heap.size, 0, none⟩) m m) ∧ Hid (Msgs W.heap.size m V A R L w' ∧ W.heap.size < w'.heap.size ∧ Below W.heap.size W w') ∧ St b id n t ch cs dv dr dd ti lt w') := by
    refine (HM.out W.drew hbw.drew).mono ?_
    rintro e w' ⟨he, h1, h2, h3⟩
    exact ⟨he, ⟨h1, h2, Below.trans (Below.drew (Below.refl _ _)) h3⟩, HS.below (Below.trans (Below.drew (Below.refl _ _)) h3) (by show b < W.heap.size; omega)⟩
  have H31 : Hid (∀ wx, Hid (Msgs W.heap.size m V A R L wx ∧ W.heap.size < wx.heap.size ∧ Below W.heap.size W wx) → Calls Try.prog 31 #[.int .i64 id, .int .i64 n, .int .i64 t, .int .i64 ch, .int .i64 cs, .bool dd, .int .i64 dv, .int .i64 dr, .int .i64 ti, .bool lt, .int .i64 c, .int .i64 r, .slice (some ⟨W.heap.size, 0, none⟩) m m] wx fun e w' => e = .returned (.tuple #[.int .i64 xch, .int .i64 xcs, .bool xdd, .int .i64 xdv, .int .i64 xdr, .int .i64 xti]) ∧ Hid (Below W.heap.size W w') ∧ St b id n t ch cs dv dr dd ti lt w') := by
    rintro wx ⟨h1, h2, h3⟩
    refine (HZ.out W.heap.size wx h2 h1).mono ?_
    rintro e w' ⟨he, h4⟩
    have h5 := h3.trans (h4.mono (Nat.le_of_lt h2))
    exact ⟨he, h5, HS.below h5 (by omega)⟩
  have HB2 : Hid (W.heap[b + 1]? = some (.cells #[.int .i64 0, .int .i64 0, .bool false, .int .i64 0, .int .i64 0, .int .i64 0] 44 (0, 0)) ∧ W.heap.size = b + 2 ∧ Below b w W) := ⟨hb2, hsz, hbw⟩
  obtain ⟨g0, g1, g2, g3, g4, g5, g6, g7, g8, g9⟩ := HS
  clear hb1 hb2 hbw HM HZ hW hsz
  go_region_held3 (fun wx => wx.cell? ⟨b, 0, none⟩ = some (.int .i64 id) ∧ wx.cell? ⟨b, 1, none⟩ = some (.int .i64 n) ∧ wx.cell? ⟨b, 2, none⟩ = some (.int .i64 t) ∧ wx.cell? ⟨b, 3, none⟩ = some (.int .i64 ch) ∧ wx.cell? ⟨b, 4, none⟩ = some (.int .i64 cs) ∧
  wx.cell? ⟨b, 5, none⟩ = some (.bool dd) ∧ wx.cell? ⟨b, 6, none⟩ = some (.int .i64 dv) ∧ wx.cell? ⟨b, 7, none⟩ = some (.int .i64 dr) ∧ wx.cell? ⟨b, 8, none⟩ = some (.int .i64 ti) ∧ wx.cell? ⟨b, 9, none⟩ = some (.bool lt)) (go_keep)
    (first | (go_at_call 32; refine H32.out.mono ?_; rintro e w1 ⟨rfl, HX, k0, k1, k2, k3, k4, k5, k6, k7, k8, k9⟩) | (go_at_call 31; refine (H31.out _ HX).mono ?_; rintro e w2 ⟨rfl, HY, k0, k1, k2, k3, k4, k5, k6, k7, k8, k9⟩))
  clear k0 k1 k2 k3 k4 k5 k6 k7 k8 k9 H32 H31
  have hbk : w2.heap[b + 1]? = some (.cells #[.int .i64 0, .int .i64 0, .bool false, .int .i64 0, .int .i64 0, .int .i64 0] 44 (0, 0)) := by
    rw [HY.out.block (b + 1) (by rw [HB2.out.2.1]; omega)]; exact HB2.out.1
  have y0 : w2.cell? ⟨b + 1, 0, none⟩ = some (.int .i64 0) := blk_cell hbk
  have y1 : w2.cell? ⟨b + 1, 1, none⟩ = some (.int .i64 0) := blk_cell hbk
  have y2 : w2.cell? ⟨b + 1, 2, none⟩ = some (.bool false) := blk_cell hbk
  have y3 : w2.cell? ⟨b + 1, 3, none⟩ = some (.int .i64 0) := blk_cell hbk
  have y4 : w2.cell? ⟨b + 1, 4, none⟩ = some (.int .i64 0) := blk_cell hbk
  have y5 : w2.cell? ⟨b + 1, 5, none⟩ = some (.int .i64 0) := blk_cell hbk
  have hf : ∀ j, w2.frozen? ⟨b + 1, j, none⟩ = false := fun j => blk_free hbk
  have HE : Hid (Below b w w2) := HB2.out.2.2.trans (HY.out.mono (by rw [HB2.out.2.1]; omega))
  clear hbk
  go_wp2_with fail
  refine bodyPost_ret (v := .agg #[.int .i64 xch, .int .i64 xcs, .bool xdd, .int .i64 xdv, .int .i64 xdr, .int .i64 xti]) (by simp [results, Try.results22, go_sem, y0, y1, y2, y3, y4, y5]) rfl ⟨rfl, ?_⟩
  rw [hB]
  iterate 6 refine Below.setCell ?_ (Nat.le_succ b) _
  exact HE.out
end Go.Proofs.Qxb6603393a.Ty
