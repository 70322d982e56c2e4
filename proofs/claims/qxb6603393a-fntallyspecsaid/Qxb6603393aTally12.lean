/- The walk of FnTallySpec. -/
import Derived.Test.Qxb6603393aTally11
namespace Go.Proofs.Qxb6603393a.Ty
set_option linter.unusedVariables false
set_option linter.unusedSimpArgs false
open Go.ChangeShapes Go.WideShapes Go.ChangeAt Go.RowKit

theorem made_any (ao : Option Addr) (ad : Addr) (m cap : Nat) (V A R : Nat → Int) (L : Nat → Bool) (w : World) (hao : 0 < m → ao = some ad) (hs : Src ad m V A R L w) (hab : 0 < m → ad.block < w.heap.size) (hml : m ≤ 32768) :
    Made (.slice ao m cap) m V A R L w.heap.size w := by
  intro wx hbx
  rcases Nat.eq_zero_or_pos m with rfl | hp
  · exact messages_nil V A R L ao cap wx
  · rw [hao hp]
    exact messages_any ad m cap V A R L wx (hs.below hbx (hab hp)) (Nat.lt_of_lt_of_le (hab hp) hbx.size) hml

theorem Src.below0 {ad : Addr} {m B : Nat} {V A R : Nat → Int} {L : Nat → Bool} {w w' : World} (h : Src ad m V A R L w) (hb : Below B w w') (hg : 0 < m → ad.block < B) : Src ad m V A R L w' := by
  rcases Nat.eq_zero_or_pos m with rfl | hp
  · intro i hi; omega
  · exact h.below hb (hg hp)

set_option maxHeartbeats 2000000 in
theorem law6_any (id n t ch cs dv dr : Int) (dd : Bool) (ti : Int) (lt : Bool) (c r : Int) (ao : Option Addr) (ad : Addr) (m cap : Nat) (V A R : Nat → Int) (L : Nat → Bool) (w : World) (hm : m ≤ 9223372036854775807)
    (hao : 0 < m → ao = some ad) (hs : Src ad m V A R L w) (hab : 0 < m → ad.block < w.heap.size) (hn2 : n ≤ 9223372036854775807) (hc1 : -9223372036854775808 ≤ c) (hc2 : c ≤ 9223372036854775807) :
    Calls Try.prog 6 #[.agg #[.int .i64 id, .int .i64 n, .int .i64 t, .int .i64 ch, .int .i64 cs, .bool dd, .int .i64 dv, .int .i64 dr, .int .i64 ti, .bool lt], .int .i64 c, .int .i64 r, .slice ao m cap] w fun e w' => e = .returned (.bool true) ∧ Below w.heap.size w w' := by
  have HS : Hid (Src ad m V A R L w) := hs
  have HAO : Hid (0 < m → ao = some ad) := hao
  have HAB : Hid (0 < m → ad.block < w.heap.size) := hab
  clear hs hao hab
  go_enter Try.func6, Try.ntmps6
  go_wp2_with fail
  refine (bytes6_any id n t ch cs dv dr dd ti lt c r ao m cap _ hm).mono ?_
  rintro e w1 ⟨rfl, hb1⟩
  have hbx : Below w.heap.size w (w.alloc (.cells #[.int .i64 id, .int .i64 n, .int .i64 t, .int .i64 ch, .int .i64 cs, .bool dd, .int .i64 dv, .int .i64 dr, .int .i64 ti, .bool lt] 39)) := (Below.refl _ _).alloc (Nat.le_refl _) _
  have hst : St w.heap.size id n t ch cs dv dr dd ti lt (w.alloc (.cells #[.int .i64 id, .int .i64 n, .int .i64 t, .int .i64 ch, .int .i64 cs, .bool dd, .int .i64 dv, .int .i64 dr, .int .i64 ti, .bool lt] 39)) := St.of (alloc_at _ _)
  have hsz : w.heap.size < (w.alloc (.cells #[.int .i64 id, .int .i64 n, .int .i64 t, .int .i64 ch, .int .i64 cs, .bool dd, .int .i64 dv, .int .i64 dr, .int .i64 ti, .bool lt] 39)).heap.size := by simp
  have HB1 : Hid (Below w.heap.size w w1 ∧ w.heap.size < w1.heap.size) := ⟨hbx.trans (hb1.mono (Nat.le_of_lt hsz)), Nat.lt_of_lt_of_le hsz hb1.size⟩
  have HT1 : Hid (St w.heap.size id n t ch cs dv dr dd ti lt w1) := hst.below hb1 hsz
  clear hbx hst hsz hb1
  by_cases h1 : m ≤ 1048576
  · by_cases h2 : m ≤ 32768
    · have h1' : decide (m ≤ 1048576) = true := by simp [h1]
      obtain ⟨g0, g1, g2, g3, g4, g5, g6, g7, g8, g9⟩ := HT1.out
      rw [h1']
      generalize hB : w.heap.size = b at *
      go_wp2_with fail
      refine (outside_any id n t ch cs dv dr dd ti lt _).mono ?_
      rintro e w2 ⟨rfl, hb2⟩
      have HB2 : Hid (Below b w w2 ∧ b < w2.heap.size) := ⟨HB1.out.1.trans (hb2.mono (Nat.le_of_lt HB1.out.2)), Nat.lt_of_lt_of_le HB1.out.2 hb2.size⟩
      have HT2 : Hid (St b id n t ch cs dv dr dd ti lt w2) := HT1.out.below hb2 HB1.out.2
      have HS2 : Hid (Src ad m V A R L w2) := HS.out.below0 HB2.out.1 HAB.out
      clear g0 g1 g2 g3 g4 g5 g6 g7 g8 g9 HT1 HB1 hb2 h1 h1'
      by_cases h3 : outB n t = true
      · rw [h3]
        go_wp2_with fail
        go_ret
        exact ⟨rfl, by rw [hB]; exact HB2.out.1⟩
      · have h3' : outB n t = false := by simpa using h3
        have hn : 1 ≤ n ∧ 0 ≤ t ∧ t < n := by simp [outB] at h3; omega
        obtain ⟨hn, ht, htn⟩ := hn
        rw [h3']
        clear h3 h3'
        obtain ⟨g0, g1, g2, g3, g4, g5, g6, g7, g8, g9⟩ := HT2.out
        have hOo : ∃ o : Out, o = Ton V A R L m c r id n t ch cs dv dr dd ti lt := ⟨_, rfl⟩
        obtain ⟨o, hO⟩ := hOo
        have HO : Hid (o = Ton V A R L m c r id n t ch cs dv dr dd ti lt) := hO
        clear hO
        have HAB2 : Hid (0 < m → ad.block < w2.heap.size) := fun h => Nat.lt_trans (HAB.out h) HB2.out.2
        go_wp2_with fail
        refine (runTally_any (.slice ao m cap) m V A R L c r id n t ch cs dv dr dd ti lt o w2 HO.out (made_any ao ad m cap V A R L w2 HAO.out HS2.out HAB2.out h2) h2 hn hn2 ht htn hc1 hc2).mono ?_
        rintro e w3 ⟨rfl, hb3⟩
        have hb3' := hb3.trans ((Below.refl _ _).alloc hb3.size (.cells #[.int .i64 o.ch, .int .i64 o.cs, .bool o.dd, .int .i64 o.dv, .int .i64 o.dr, .int .i64 o.ti] 44))
        have HG : Hid ((w3.alloc (.cells #[.int .i64 o.ch, .int .i64 o.cs, .bool o.dd, .int .i64 o.dv, .int .i64 o.dr, .int .i64 o.ti] 44)).heap[w3.heap.size]? = some (.cells #[.int .i64 o.ch, .int .i64 o.cs, .bool o.dd, .int .i64 o.dv, .int .i64 o.dr, .int .i64 o.ti] 44 (0, 0))) := alloc_at _ _
        have HZ : Hid (w3.heap.size < (w3.alloc (.cells #[.int .i64 o.ch, .int .i64 o.cs, .bool o.dd, .int .i64 o.dv, .int .i64 o.dr, .int .i64 o.ti] 44)).heap.size ∧ w2.heap.size ≤ w3.heap.size) := ⟨by simp, hb3.size⟩
        have HT3 : Hid (St b id n t ch cs dv dr dd ti lt (w3.alloc (.cells #[.int .i64 o.ch, .int .i64 o.cs, .bool o.dd, .int .i64 o.dv, .int .i64 o.dr, .int .i64 o.ti] 44))) := HT2.out.below hb3' HB2.out.2
        have HX3 : Hid (Below w2.heap.size w2 (w3.alloc (.cells #[.int .i64 o.ch, .int .i64 o.cs, .bool o.dd, .int .i64 o.dv, .int .i64 o.dr, .int .i64 o.ti] 44))) := hb3'
        clear g0 g1 g2 g3 g4 g5 g6 g7 g8 g9 hb3 hb3'
        obtain ⟨g0, g1, g2, g3, g4, g5, g6, g7, g8, g9⟩ := HT3.out
        go_wp2_with fail
        generalize hW3 : w3.alloc (.cells #[.int .i64 o.ch, .int .i64 o.cs, .bool o.dd, .int .i64 o.dv, .int .i64 o.dr, .int .i64 o.ti] 44) = W3 at *
        clear hW3
        generalize w3.heap.size = p1 at *
        refine (before_any id n t ch cs dv dr dd ti lt W3).mono ?_
        rintro e w4 ⟨rfl, hb4⟩
        obtain ⟨W5, hW5⟩ : ∃ W5, W5 = w4.alloc (.cells #[.int .i64 ch, .int .i64 cs, .bool dd, .int .i64 dv, .int .i64 dr, .int .i64 ti] 44) := ⟨_, rfl⟩
        have hb5 : Below W3.heap.size W3 W5 := by rw [hW5]; exact hb4.alloc hb4.size _
        have HF : Hid (Below b w W5 ∧ b < p1 ∧ p1 < w4.heap.size ∧ w4.heap.size < W5.heap.size ∧ Src ad m V A R L W5 ∧ W5.heap[p1]? = some (.cells #[.int .i64 o.ch, .int .i64 o.cs, .bool o.dd, .int .i64 o.dv, .int .i64 o.dr, .int .i64 o.ti] 44 (0, 0)) ∧
            W5.heap[w4.heap.size]? = some (.cells #[.int .i64 ch, .int .i64 cs, .bool dd, .int .i64 dv, .int .i64 dr, .int .i64 ti] 44 (0, 0)) ∧ St b id n t ch cs dv dr dd ti lt W5) := by
          have z1 := HZ.out.1
          have z2 := HZ.out.2
          have z3 := HB2.out.2
          have z4 := hb4.size
          have x5 : Below w2.heap.size w2 W5 := HX3.out.trans (hb5.mono (by omega))
          refine ⟨HB2.out.1.trans (x5.mono (by omega)), by omega, by omega, by rw [hW5]; simp, HS2.out.below0 x5 HAB2.out, ?_, ?_, HT3.out.below hb5 (by omega)⟩
          · rw [hb5.block p1 z1]; exact HG.out
          · rw [hW5]; exact alloc_at _ _
        have hW5' := hW5.symm
        clear hW5 hb5 hb4 g0 g1 g2 g3 g4 g5 g6 g7 g8 g9 HT3 HT2 HS2 HB2 HX3 HZ HG HS HAB2
        have hq : wrap64 (n - t) = n - t := by unfold wrap64; omega
        obtain ⟨g0, g1, g2, g3, g4, g5, g6, g7, g8, g9⟩ := HF.out.2.2.2.2.2.2.2
        go_upto_region 9 with fail
        generalize w4.heap.size = p2 at *
        clear hW5'
        go_wp2_with fail
        go_loopw [12, 39] (fun u v wr => wr = W5 ∧ ∃ k : Nat, u = .int .i64 (ackN A c k : Nat) ∧ v = .int .i64 k ∧ k ≤ m) (fun _ v _ => m - (intOf v).toNat)
        case atStart => exact ⟨rfl, 0, rfl, rfl, by omega⟩
        case round =>
          obtain ⟨rfl, k, rfl, rfl, hk⟩ := hrel
          have b0 := ackN_le A c k
          by_cases hlt : k < m
          · have i1 : (k : Int) < m := by omega
            obtain rfl : ao = some ad := HAO.out (by omega)
            obtain ⟨f0, f1, f2, f3⟩ := HF.out.2.2.2.2.1 k hlt
            have hh : ((A k == c) = true ∧ Hid (ackN A c (k + 1) = ackN A c k + 1)) ∨ ((A k == c) = false ∧ Hid (ackN A c (k + 1) = ackN A c k)) := by
              by_cases ha : A k = c
              · exact .inl ⟨by rw [ha]; simp, by show _ = _; rw [ackN, if_pos ha]⟩
              · exact .inr ⟨by simp [ha], by show _ = _; rw [ackN, if_neg ha]⟩
            rcases hh with ⟨he, HK⟩ | ⟨he, HK⟩
            all_goals
              go_wp2_with fail
              go_roundw
              case rel => exact ⟨by trivial, k + 1, by rw [HK.out] <;> first | rfl | go_num, by go_num, by omega⟩
              case measure => simp [intOf]; omega
          · obtain rfl : k = m := by omega
            have hbest := bestI_lt A R L k
            have hz0 : (n == 0) = false := by simp; omega
            have hf2 : ∀ j, wr.frozen? ⟨p2, j, none⟩ = false := fun j => blk_free HF.out.2.2.2.2.2.2.1
            have y0 : wr.cell? ⟨p2, 0, none⟩ = some (.int .i64 ch) := blk_cell HF.out.2.2.2.2.2.2.1
            have y1 : wr.cell? ⟨p2, 1, none⟩ = some (.int .i64 cs) := blk_cell HF.out.2.2.2.2.2.2.1
            have y2 : wr.cell? ⟨p2, 2, none⟩ = some (.bool dd) := blk_cell HF.out.2.2.2.2.2.2.1
            have y3 : wr.cell? ⟨p2, 3, none⟩ = some (.int .i64 dv) := blk_cell HF.out.2.2.2.2.2.2.1
            have y4 : wr.cell? ⟨p2, 4, none⟩ = some (.int .i64 dr) := blk_cell HF.out.2.2.2.2.2.2.1
            have y5 : wr.cell? ⟨p2, 5, none⟩ = some (.int .i64 ti) := blk_cell HF.out.2.2.2.2.2.2.1
            by_cases hd : n - t ≤ (ackN A c k : Int)
            · obtain rfl : o = ⟨ch, cs, V (bestI A R L k), r, true, if lt = true then wrap64 (r + 1) else ti⟩ := by
                rw [HO.out]; unfold Ton; rw [if_pos hd]
              obtain rfl : ao = some ad := HAO.out (by omega)
              have hbl : bestI A R L k < k := by omega
              have hbi : ((bestI A R L k : Nat) : Int) < k := by omega
              have hadb : ad.block < b := HAB.out (by omega)
              clear HAO HAB HO hbest
              cases lt
              all_goals
                go_wp2_with fail
                have p12 := HF.out.2.2.1
                have pb1 := HF.out.2.1
                have p2s := HF.out.2.2.2.1
                have h6 : Below p2 wr (wr.setCell ⟨p2, 2, none⟩ (.bool true)) := bl_set (Below.refl _ _) _ _
                have h6b := blk_set (j := 2) (.bool true) HF.out.2.2.2.2.2.2.1
                have h6s := h6.size
                refine (firstHighest_any ad k cap V A R L _ (HF.out.2.2.2.2.1.below h6 (by omega)) (by omega) h2 (by omega)).mono ?_
                rintro e w7 ⟨rfl, hb7⟩
                have h7 : Below p2 wr w7 := h6.trans (hb7.mono (by omega))
                have HB7 : Hid (Below b w w7) := HF.out.1.trans (h7.mono (by omega))
                have hk2 : w7.heap[p2]? = some (.cells #[.int .i64 ch, .int .i64 cs, .bool true, .int .i64 dv, .int .i64 dr, .int .i64 ti] 44 (0, 0)) := by
                  rw [hb7.block p2 (by omega)]; exact h6b
                have hk1 : w7.heap[p1]? = _ := (h7.block p1 p12).trans HF.out.2.2.2.2.2.1
                have hf7 : ∀ j, w7.frozen? ⟨p2, j, none⟩ = false := fun j => blk_free hk2
                have q0 : w7.cell? ⟨p2, 0, none⟩ = some (.int .i64 ch) := blk_cell hk2
                have q1 : w7.cell? ⟨p2, 1, none⟩ = some (.int .i64 cs) := blk_cell hk2
                have q2 : w7.cell? ⟨p2, 2, none⟩ = some (.bool true) := blk_cell hk2
                have q3 : w7.cell? ⟨p2, 3, none⟩ = some (.int .i64 dv) := blk_cell hk2
                have q4 : w7.cell? ⟨p2, 4, none⟩ = some (.int .i64 dr) := blk_cell hk2
                have q5 : w7.cell? ⟨p2, 5, none⟩ = some (.int .i64 ti) := blk_cell hk2
                have x0 : w7.cell? ⟨p1, 0, none⟩ = some (.int .i64 ch) := blk_cell hk1
                have x1 : w7.cell? ⟨p1, 1, none⟩ = some (.int .i64 cs) := blk_cell hk1
                have x2 : w7.cell? ⟨p1, 2, none⟩ = some (.bool true) := blk_cell hk1
                have x3 : w7.cell? ⟨p1, 3, none⟩ = some (.int .i64 (V (bestI A R L k))) := blk_cell hk1
                have x4 : w7.cell? ⟨p1, 4, none⟩ = some (.int .i64 r) := blk_cell hk1
                have x5 : w7.cell? ⟨p1, 5, none⟩ = _ := blk_cell hk1
                obtain ⟨u0, u1, u2, u3, u4, u5, u6, u7, u8, u9⟩ := HF.out.2.2.2.2.2.2.2.below h7 (by omega)
                obtain ⟨f0, -, -, -⟩ := (HF.out.2.2.2.2.1.below h7 (by omega)) _ hbl
                have hne12 : p1 ≠ p2 := by omega
                have hneb2 : b ≠ p2 := by omega
                have hnea : (ad.add (bestI A R L k * 4)).block ≠ p2 := by rw [ad_block]; omega
                clear hk1 hk2 h6 h6b h6s hb7 h7 y0 y1 y2 y3 y4 y5 hf2 g0 g1 g2 g3 g4 g5 g6 g7 g8 g9
                go_wp2_with fail
                go_ret
                refine ⟨rfl, ?_⟩
                rw [hB]
                repeat refine Below.setCell ?_ (by show b ≤ p2; omega) _
                exact HB7.out
            · by_cases hg : ((wrap64 (c.tmod n + 1) == id) && decide (n - t ≤ (k : Int))) = true
              · obtain rfl : o = ⟨V (bestI A R L k), wrap64 (c + 1), dv, dr, dd, ti⟩ := by
                  rw [HO.out]; unfold Ton; rw [if_neg hd, if_pos hg]
                rw [Bool.and_eq_true, decide_eq_true_eq] at hg
                obtain ⟨hl1, hl2⟩ := hg
                obtain rfl : ao = some ad := HAO.out (by omega)
                have hbl : bestI A R L k < k := by omega
                have hbi : ((bestI A R L k : Nat) : Int) < k := by omega
                have hadb : ad.block < b := HAB.out (by omega)
                clear HAO HAB HO hbest
                go_wp2_with fail
                go_quiet (fail)
                go_wp2_with fail
                have p12 := HF.out.2.2.1
                have pb1 := HF.out.2.1
                have p2s := HF.out.2.2.2.1
                have h6 : Below p2 wr (wr.drewN nq) := Below.drewN (Below.refl _ _) _
                have h6s : (wr.drewN nq).heap.size = wr.heap.size := rfl
                refine (firstHighest_any ad k cap V A R L _ (HF.out.2.2.2.2.1.below h6 (by omega)) (by omega) h2 (by omega)).mono ?_
                rintro e w7 ⟨rfl, hb7⟩
                have h7 : Below p2 wr w7 := h6.trans (hb7.mono (by omega))
                have HB7 : Hid (Below b w w7) := HF.out.1.trans (h7.mono (by omega))
                have hk2 : w7.heap[p2]? = some (.cells #[.int .i64 ch, .int .i64 cs, .bool dd, .int .i64 dv, .int .i64 dr, .int .i64 ti] 44 (0, 0)) := by
                  rw [hb7.block p2 (by omega)]; exact HF.out.2.2.2.2.2.2.1
                have hk1 : w7.heap[p1]? = _ := (h7.block p1 p12).trans HF.out.2.2.2.2.2.1
                have hf7 : ∀ j, w7.frozen? ⟨p2, j, none⟩ = false := fun j => blk_free hk2
                have q0 : w7.cell? ⟨p2, 0, none⟩ = some (.int .i64 ch) := blk_cell hk2
                have q1 : w7.cell? ⟨p2, 1, none⟩ = some (.int .i64 cs) := blk_cell hk2
                have q2 : w7.cell? ⟨p2, 2, none⟩ = some (.bool dd) := blk_cell hk2
                have q3 : w7.cell? ⟨p2, 3, none⟩ = some (.int .i64 dv) := blk_cell hk2
                have q4 : w7.cell? ⟨p2, 4, none⟩ = some (.int .i64 dr) := blk_cell hk2
                have q5 : w7.cell? ⟨p2, 5, none⟩ = some (.int .i64 ti) := blk_cell hk2
                have x0 : w7.cell? ⟨p1, 0, none⟩ = some (.int .i64 (V (bestI A R L k))) := blk_cell hk1
                have x1 : w7.cell? ⟨p1, 1, none⟩ = some (.int .i64 (wrap64 (c + 1))) := blk_cell hk1
                have x2 : w7.cell? ⟨p1, 2, none⟩ = some (.bool dd) := blk_cell hk1
                have x3 : w7.cell? ⟨p1, 3, none⟩ = some (.int .i64 dv) := blk_cell hk1
                have x4 : w7.cell? ⟨p1, 4, none⟩ = some (.int .i64 dr) := blk_cell hk1
                have x5 : w7.cell? ⟨p1, 5, none⟩ = some (.int .i64 ti) := blk_cell hk1
                obtain ⟨f0, -, -, -⟩ := (HF.out.2.2.2.2.1.below h7 (by omega)) _ hbl
                have hne12 : p1 ≠ p2 := by omega
                have hnea : (ad.add (bestI A R L k * 4)).block ≠ p2 := by rw [ad_block]; omega
                clear hk1 hk2 h6 h6s hb7 h7 y0 y1 y2 y3 y4 y5 hf2 g0 g1 g2 g3 g4 g5 g6 g7 g8 g9
                go_wp2_with fail
                go_ret
                refine ⟨rfl, ?_⟩
                rw [hB]
                repeat refine Below.setCell ?_ (by show b ≤ p2; omega) _
                exact HB7.out
              · obtain rfl : o = ⟨ch, cs, dv, dr, dd, ti⟩ := by
                  rw [HO.out]; unfold Ton; rw [if_neg hd, if_neg hg]
                have x0 : wr.cell? ⟨p1, 0, none⟩ = some (.int .i64 ch) := blk_cell HF.out.2.2.2.2.2.1
                have x1 : wr.cell? ⟨p1, 1, none⟩ = some (.int .i64 cs) := blk_cell HF.out.2.2.2.2.2.1
                have x2 : wr.cell? ⟨p1, 2, none⟩ = some (.bool dd) := blk_cell HF.out.2.2.2.2.2.1
                have x3 : wr.cell? ⟨p1, 3, none⟩ = some (.int .i64 dv) := blk_cell HF.out.2.2.2.2.2.1
                have x4 : wr.cell? ⟨p1, 4, none⟩ = some (.int .i64 dr) := blk_cell HF.out.2.2.2.2.2.1
                have x5 : wr.cell? ⟨p1, 5, none⟩ = some (.int .i64 ti) := blk_cell HF.out.2.2.2.2.2.1
                clear HAO HAB HO hbest
                by_cases hl1 : (wrap64 (c.tmod n + 1) == id) = true
                · have hl2 : ¬ n - t ≤ (k : Int) := by
                    intro h
                    rw [Bool.and_eq_true, decide_eq_true_eq] at hg
                    exact hg ⟨hl1, h⟩
                  clear hg
                  go_wp2_with fail
                  go_quiet (fail)
                  go_wp2_with fail
                  go_ret
                  exact ⟨rfl, by rw [hB]; exact Below.drewN HF.out.1 _⟩
                · have hl1' : (wrap64 (c.tmod n + 1) == id) = false := by simpa using hl1
                  clear hg hl1
                  go_wp2_with fail
                  go_quiet (fail)
                  go_wp2_with fail
                  go_ret
                  exact ⟨rfl, by rw [hB]; exact Below.drewN HF.out.1 _⟩
    · have h1' : decide (m ≤ 1048576) = true := by simp [h1]
      rw [h1']
      go_wp2_with fail
      go_ret
      exact ⟨rfl, HB1.out.1⟩
  · have h1' : decide (m ≤ 1048576) = false := by simp [h1]
    rw [h1']
    go_wp2_with fail
    go_ret
    exact ⟨rfl, HB1.out.1⟩
end Go.Proofs.Qxb6603393a.Ty
