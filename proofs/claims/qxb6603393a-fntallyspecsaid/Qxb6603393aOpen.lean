/- The laws' arguments, opened. -/
import Derived.Test.Qxb6603393aTally6
import Derived.OpenShut
import Derived.Lib.SmallJoins
import Derived.Deep.Slices
import Derived.Carry
namespace Go.Proofs.Qxb6603393a.Op
open Go.ChangeShapes Go.WideShapes Go.ChangeAt Go.RowKit
open Go.Proofs.Qxb6603393a.Ty

theorem cells39 : Try.prog.cellsOf 39 = 10 := by kernel_rfl
theorem cells48 : Try.prog.cellsOf 48 = 4 := by kernel_rfl
theorem laid : laidOutB Try.prog = true := by kernel_rfl

section
variable {H : Type} {enc : TypeId × Value → H} {w : World} {base : Nat} {spare : Nat → Bool} {held : Bool}

theorem one_int {fuel : Nat} {v : Value} {x : Option (DataW H × List MemPlace)} (hx : x ≠ none) (h : DataW.trod enc Try.prog w base spare held fuel 3 [v] = x) : ∃ n : Int, v = .int .i64 n ∧ -9223372036854775808 ≤ n ∧ n ≤ 9223372036854775807 := by
  cases x with
  | none => exact absurd rfl hx
  | some y =>
    obtain ⟨n, h1, -, h2⟩ := DataW.trod_int Try.underlying3 h
    simp only [List.cons.injEq, and_true] at h1
    simp [Lit.wf, IntKind.min, IntKind.max, IntKind.signed, IntKind.bits] at h2
    exact ⟨n, h1, by omega, by omega⟩

theorem one_bool {fuel : Nat} {v : Value} {x : Option (DataW H × List MemPlace)} (hx : x ≠ none) (h : DataW.trod enc Try.prog w base spare held fuel 4 [v] = x) : ∃ b : Bool, v = .bool b := by
  cases x with
  | none => exact absurd rfl hx
  | some y =>
    obtain ⟨b, h1, -⟩ := DataW.trod_bool Try.underlying4 h
    simp only [List.cons.injEq, and_true] at h1
    exact ⟨b, h1⟩

set_option maxRecDepth 100000 in
theorem open_state {b0 : Nat} {v : Value} {d : DataW H} {p : List MemPlace} (hv : Value.okWide Try.prog w .any b0 39 v) (h : DataW.Trod enc Try.prog w base spare held 39 v d p) :
    ∃ (id n t ch cs dv dr : Int) (dd : Bool) (ti : Int) (lt : Bool), v = .agg #[.int .i64 id, .int .i64 n, .int .i64 t, .int .i64 ch, .int .i64 cs, .bool dd, .int .i64 dv, .int .i64 dr, .int .i64 ti, .bool lt] ∧ n ≤ 9223372036854775807 := by
  obtain ⟨cs, rfl, hsz⟩ := okWide_struct Try.underlying39 hv
  rw [cells39] at hsz
  obtain ⟨fuel, hf⟩ := h
  obtain ⟨xs, n, -, -, -, hl, hg⟩ := DataW.trod_struct Try.underlying39 hf
  obtain ⟨l⟩ := cs
  have hl' : xs.length = 10 := hl
  match l, hsz with
  | [c0, c1, c2, c3, c4, c5, c6, c7, c8, c9], _ =>
    have hx : ∀ i, i < 10 → xs[i]? ≠ none := fun i hi => by rw [List.getElem?_eq_getElem (by omega)]; simp
    have g0 : DataW.trod enc Try.prog w base spare held n 3 [c0] = xs[0]? := hg 0 _ rfl
    have g1 : DataW.trod enc Try.prog w base spare held n 3 [c1] = xs[1]? := hg 1 _ rfl
    have g2 : DataW.trod enc Try.prog w base spare held n 3 [c2] = xs[2]? := hg 2 _ rfl
    have g3 : DataW.trod enc Try.prog w base spare held n 3 [c3] = xs[3]? := hg 3 _ rfl
    have g4 : DataW.trod enc Try.prog w base spare held n 3 [c4] = xs[4]? := hg 4 _ rfl
    have g5 : DataW.trod enc Try.prog w base spare held n 4 [c5] = xs[5]? := hg 5 _ rfl
    have g6 : DataW.trod enc Try.prog w base spare held n 3 [c6] = xs[6]? := hg 6 _ rfl
    have g7 : DataW.trod enc Try.prog w base spare held n 3 [c7] = xs[7]? := hg 7 _ rfl
    have g8 : DataW.trod enc Try.prog w base spare held n 3 [c8] = xs[8]? := hg 8 _ rfl
    have g9 : DataW.trod enc Try.prog w base spare held n 4 [c9] = xs[9]? := hg 9 _ rfl
    obtain ⟨n0, rfl, -, -⟩ := one_int (hx 0 (by omega)) g0
    obtain ⟨n1, rfl, -, b1⟩ := one_int (hx 1 (by omega)) g1
    obtain ⟨n2, rfl, -, -⟩ := one_int (hx 2 (by omega)) g2
    obtain ⟨n3, rfl, -, -⟩ := one_int (hx 3 (by omega)) g3
    obtain ⟨n4, rfl, -, -⟩ := one_int (hx 4 (by omega)) g4
    obtain ⟨n5, rfl⟩ := one_bool (hx 5 (by omega)) g5
    obtain ⟨n6, rfl, -, -⟩ := one_int (hx 6 (by omega)) g6
    obtain ⟨n7, rfl, -, -⟩ := one_int (hx 7 (by omega)) g7
    obtain ⟨n8, rfl, -, -⟩ := one_int (hx 8 (by omega)) g8
    obtain ⟨n9, rfl⟩ := one_bool (hx 9 (by omega)) g9
    exact ⟨n0, n1, n2, n3, n4, n6, n7, n5, n8, n9, rfl, b1⟩

theorem cell_lt {a : Addr} {v : Value} (h : w.cell? a = some v) : a.block < w.heap.size := by
  rcases Nat.lt_or_ge a.block w.heap.size with h1 | h1
  · exact h1
  · simp [World.cell?, Array.getElem?_eq_none h1] at h

theorem add_succ (a : Addr) (j : Nat) : a.add (j + 1) = ⟨a.block, a.off + (j + 1), none⟩ := by
  unfold Addr.add
  rw [if_neg (by omega)]

set_option maxRecDepth 100000 in
theorem open_msgs {b0 : Nat} {v : Value} {d : DataW H} {p : List MemPlace} (hv : Value.okWide Try.prog w .any b0 40 v) (h : DataW.Trod enc Try.prog w base spare held 40 v d p) :
    (v = .slice none 0 0) ∨ ∃ (ad : Addr) (m cap : Nat) (V A R : Nat → Int) (L : Nat → Bool), v = .slice (some ad) m cap ∧ m ≤ 9223372036854775807 ∧ Src ad m V A R L w ∧ (0 < m → ad.block < w.heap.size) := by
  obtain ⟨a, len, cap, rfl⟩ := okWide_slice Try.underlying40 hv
  obtain ⟨fuel, hf⟩ := h
  rcases Go.Deep.open_slice Try.underlying40 hf with ⟨h0, -⟩ | ⟨ad, len', cap', m, n, D, Pl, h1, -, hl, hc, hm, -, hx⟩
  · left
    simpa [Value.cells] using h0
  · right
    simp only [Value.cells, List.cons.injEq, and_true, Value.slice.injEq] at h1
    obtain ⟨rfl, rfl, rfl⟩ := h1
    have hlm : len ≤ m := by rw [hm]; split <;> omega
    have each : ∀ i, i < len → ∃ q : Int × Int × Int × Bool, w.cell? (ad.add (i * 4)) = some (.int .i64 q.1) ∧ w.cell? ⟨(ad.add (i * 4)).block, (ad.add (i * 4)).off + 1, none⟩ = some (.int .i64 q.2.1) ∧
        w.cell? ⟨(ad.add (i * 4)).block, (ad.add (i * 4)).off + 2, none⟩ = some (.int .i64 q.2.2.1) ∧ w.cell? ⟨(ad.add (i * 4)).block, (ad.add (i * 4)).off + 3, none⟩ = some (.bool q.2.2.2) := by
      intro i hi
      obtain ⟨cs', h1, h2⟩ := hx i (by omega)
      rw [cells48] at h1
      obtain ⟨-, hlen, hcell⟩ := World.cells?_some h1
      obtain ⟨xs, k, -, -, -, hxl, hg⟩ := DataW.trod_struct Try.underlying48 h2
      have hl' : xs.length = 4 := hxl
      have hxn : ∀ i, i < 4 → xs[i]? ≠ none := fun i hi => by rw [List.getElem?_eq_getElem (by omega)]; simp
      match cs', hlen with
      | [c0, c1, c2, c3], _ =>
        have g0 : DataW.trod enc Try.prog w base spare held k 3 [c0] = xs[0]? := hg 0 _ rfl
        have g1 : DataW.trod enc Try.prog w base spare held k 3 [c1] = xs[1]? := hg 1 _ rfl
        have g2 : DataW.trod enc Try.prog w base spare held k 3 [c2] = xs[2]? := hg 2 _ rfl
        have g3 : DataW.trod enc Try.prog w base spare held k 4 [c3] = xs[3]? := hg 3 _ rfl
        obtain ⟨n0, rfl, -, -⟩ := one_int (hxn 0 (by omega)) g0
        obtain ⟨n1, rfl, -, -⟩ := one_int (hxn 1 (by omega)) g1
        obtain ⟨n2, rfl, -, -⟩ := one_int (hxn 2 (by omega)) g2
        obtain ⟨n3, rfl⟩ := one_bool (hxn 3 (by omega)) g3
        have e0 := hcell 0 (by omega)
        have e1 := hcell 1 (by omega)
        have e2 := hcell 2 (by omega)
        have e3 := hcell 3 (by omega)
        rw [add_succ] at e1 e2 e3
        exact ⟨(n0, n1, n2, n3), by simpa [Addr.add] using e0, e1, e2, e3⟩
    obtain ⟨q, hq⟩ := Go.Deep.choose_lt each
    refine ⟨ad, len, cap, fun i => (q i).1, fun i => (q i).2.1, fun i => (q i).2.2.1, fun i => (q i).2.2.2, rfl, ?_, fun i hi => hq i hi, ?_⟩
    · have : cap ≤ 9223372036854775807 := hc
      omega
    · intro hp
      have := cell_lt (hq 0 hp).1
      rwa [ad_block] at this
end
end Go.Proofs.Qxb6603393a.Op
