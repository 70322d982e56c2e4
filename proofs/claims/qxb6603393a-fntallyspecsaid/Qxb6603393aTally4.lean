/- The walks of ZZTally, tallyMessages, runTally. -/
import Derived.Test.Qxb6603393aTally3
namespace Go.Proofs.Qxb6603393a.Ty
set_option linter.unusedVariables false
set_option linter.unusedSimpArgs false
open Go.ChangeShapes Go.WideShapes Go.ChangeAt Go.RowKit

/-- What the tally leaves. -/
structure Out where
  ch : Int
  cs : Int
  dv : Int
  dr : Int
  dd : Bool
  ti : Int

def Ton (V A R : Nat → Int) (L : Nat → Bool) (m : Nat) (c r id n t ch cs dv dr : Int) (dd : Bool) (ti : Int) (lt : Bool) : Out :=
  if n - t ≤ (ackN A c m : Int) then ⟨ch, cs, V (bestI A R L m), r, true, if lt = true then wrap64 (r + 1) else ti⟩
  else if ((wrap64 (c.tmod n + 1) == id) && decide (n - t ≤ (m : Int))) = true then ⟨V (bestI A R L m), wrap64 (c + 1), dv, dr, dd, ti⟩
  else ⟨ch, cs, dv, dr, dd, ti⟩

theorem td_ton (V A R : Nat → Int) (L : Nat → Bool) (m : Nat) (c r id n t ch cs dv dr : Int) (dd : Bool) (ti : Int) (lt : Bool) (o : Out) (ho : o = Ton V A R L m c r id n t ch cs dv dr dd ti lt) :
    Td V A R L m c r id n t ch cs dv dr dd ti lt = Cd id n t o.ch o.cs o.dv o.dr o.dd o.ti lt := by
  subst ho
  unfold Td Ton
  by_cases h1 : n - t ≤ (ackN A c m : Int)
  · rw [if_pos h1, if_pos h1]
  · rw [if_neg h1, if_neg h1]
    by_cases h2 : ((wrap64 (c.tmod n + 1) == id) && decide (n - t ≤ (m : Int))) = true
    · rw [if_pos h2, if_pos h2]
    · rw [if_neg h2, if_neg h2]

theorem alloc_at (w : World) (o : Obj) : (w.alloc o).heap[w.heap.size]? = some o := by
  rw [← World.alloc_eq]
  exact Array.getElem?_push_size

theorem info66 : ((Try.prog.info? 66).map (fun i => (i.zero, i.size, i.bytes))).map (fun x => (x.1.map (fun z => z.cells.size), x.2)) = some (some 14, 14, 176) := by kernel_rfl

theorem made66 (w : World) (m : Nat) (hml : m ≤ 32768) : ∃ Z : Array Value, Z.size = m * 14 ∧ (Instr.makeSlice 33 (.int .i64 m) (.int .i64 m)).run Try.prog w = .ok (.slice (some ⟨w.heap.size, 0, none⟩) m m) (w.alloc (.cells Z 66)) := by
  have h := info66
  rw [Option.map_map] at h
  obtain ⟨i, hi, hzz⟩ := Option.map_eq_some_iff.1 h
  simp only [Function.comp, Prod.mk.injEq] at hzz
  obtain ⟨h1, h2, h3⟩ := hzz
  obtain ⟨z, hz, -⟩ := Option.map_eq_some_iff.1 h1
  refine ⟨madeCells z.cells (m * 14), size_madeCells _ _, ?_⟩
  have := run_make (P := Try.prog) w 33 66 i z Try.underlying33 hi hz .i64 .i64 m m (by omega) (by omega) (by rw [h3]; omega) (by omega)
  rw [h2] at this
  simpa only [Int.toNat_natCast] using this

set_option maxHeartbeats 1000000 in
theorem ZZTally_any (g m : Nat) (V A R : Nat → Int) (L : Nat → Bool) (c r id n t ch cs dv dr : Int) (dd : Bool) (ti : Int) (lt : Bool) (o : Out) (w : World)
    (ho : o = Ton V A R L m c r id n t ch cs dv dr dd ti lt) (hg : g < w.heap.size) (hm : Msgs g m V A R L w) (hml : m ≤ 32768)
    (hn : 1 ≤ n) (hn2 : n ≤ 9223372036854775807) (ht : 0 ≤ t) (htn : t < n) (hc1 : -9223372036854775808 ≤ c) (hc2 : c ≤ 9223372036854775807) :
    Calls Try.prog 31 #[.int .i64 id, .int .i64 n, .int .i64 t, .int .i64 ch, .int .i64 cs, .bool dd, .int .i64 dv, .int .i64 dr, .int .i64 ti, .bool lt, .int .i64 c, .int .i64 r, .slice (some ⟨g, 0, none⟩) m m] w fun e w' => e = .returned (.tuple #[.int .i64 o.ch, .int .i64 o.cs, .bool o.dd, .int .i64 o.dv, .int .i64 o.dr, .int .i64 o.ti]) ∧ Below w.heap.size w w' := by
  have HD := td_ton V A R L m c r id n t ch cs dv dr dd ti lt o ho
  have HT : Hid (∀ wx : World, Below w.heap.size w wx → wx.heap[w.heap.size]? = some (.cells (Cd id n t ch cs dv dr dd ti lt) 76 (0, 0)) → 
    Calls Try.prog 37 #[.pointer (some ⟨w.heap.size, 0, none⟩), .int .i64 c, .int .i64 r, .slice (some ⟨g, 0, none⟩) m m] wx fun e w' => e = .returned (.tuple #[]) ∧ w'.heap[w.heap.size]? = some (.cells (Cd id n t o.ch o.cs o.dv o.dr o.dd o.ti lt) 76 (0, 0)) ∧ Below w.heap.size wx w') := by
    intro wx hb hp
    rw [← HD]
    refine tally_any w.heap.size g m V A R L c r id n t ch cs dv dr dd ti lt wx hp hg ?_ (hm.below hb hg) hml hn hn2 ht htn hc1 hc2
    rcases Nat.lt_or_ge w.heap.size wx.heap.size with h | h
    · exact h
    · rw [Array.getElem?_eq_none h] at hp; cases hp
  clear HD ho hm
  go_enter Try.func31, Try.ntmps31
  go_wp2_with fail
  refine (HT.out _ ?hb ?hp).mono ?_
  case hb => exact (Below.refl _ _).alloc (Nat.le_refl _) _
  case hp => exact alloc_at _ _
  rintro e w1 ⟨rfl, hb1, hb2⟩
  have f8 : w1.cell? ⟨w.heap.size, 8, none⟩ = some (.int .i64 o.ch) := blk_cell hb1
  have f9 : w1.cell? ⟨w.heap.size, 9, none⟩ = some (.int .i64 o.cs) := blk_cell hb1
  have f10 : w1.cell? ⟨w.heap.size, 10, none⟩ = some (.int .i64 o.dv) := blk_cell hb1
  have f11 : w1.cell? ⟨w.heap.size, 11, none⟩ = some (.int .i64 o.dr) := blk_cell hb1
  have f12 : w1.cell? ⟨w.heap.size, 12, none⟩ = some (.bool o.dd) := blk_cell hb1
  have f13 : w1.cell? ⟨w.heap.size, 13, none⟩ = some (.int .i64 o.ti) := blk_cell hb1
  have HB : Hid (Below w.heap.size w w1) := ((Below.refl _ _).alloc (Nat.le_refl _) _).trans hb2
  clear hb1 hb2 HT
  go_wp2_with fail
  go_quiet (fail)
  go_wp2_with fail
  exact bodyPost_ret (v := .tuple #[.int .i64 o.ch, .int .i64 o.cs, .bool o.dd, .int .i64 o.dv, .int .i64 o.dr, .int .i64 o.ti]) (by simp [results, Try.results31, go_sem]) rfl ⟨rfl, Below.drewN HB.out _⟩

/-- The argument's messages. -/
def Src (ad : Addr) (m : Nat) (V A R : Nat → Int) (L : Nat → Bool) (w : World) : Prop :=
  ∀ i, i < m → w.cell? (ad.add (i * 4)) = some (.int .i64 (V i)) ∧ w.cell? ⟨(ad.add (i * 4)).block, (ad.add (i * 4)).off + 1, none⟩ = some (.int .i64 (A i)) ∧ w.cell? ⟨(ad.add (i * 4)).block, (ad.add (i * 4)).off + 2, none⟩ = some (.int .i64 (R i)) ∧ w.cell? ⟨(ad.add (i * 4)).block, (ad.add (i * 4)).off + 3, none⟩ = some (.bool (L i))

theorem ad_block (a : Addr) (n : Nat) : (a.add n).block = a.block := by unfold Addr.add; split <;> rfl

theorem Src.below {ad : Addr} {m B : Nat} {V A R : Nat → Int} {L : Nat → Bool} {w w' : World} (h : Src ad m V A R L w) (hb : Below B w w') (hg : ad.block < B) : Src ad m V A R L w' := by
  intro i hi
  obtain ⟨h1, h2, h3, h4⟩ := h i hi
  have hq : (ad.add (i * 4)).block < B := by rw [ad_block]; exact hg
  refine ⟨?_, ?_, ?_, ?_⟩
  · rw [hb.cell (p := ad.add (i * 4)) hq]; exact h1
  · rw [hb.cell (p := ⟨_, _, none⟩) hq]; exact h2
  · rw [hb.cell (p := ⟨_, _, none⟩) hq]; exact h3
  · rw [hb.cell (p := ⟨_, _, none⟩) hq]; exact h4
end Go.Proofs.Qxb6603393a.Ty
