/- The walk of FnRadixReadsWhatIsWritten. -/
import Derived.Test.Qxb6603772aRadix
import Derived.Test.Qxb6603772aDigits
import Derived.Test.Qxb6603772aText
import Derived.Test.Qxb6603772aLaw3
import Derived.Test.Qxb6603772aKeep
namespace Go.Proofs.Qxb6603772a.Rd
set_option linter.unusedVariables false
set_option linter.unusedSimpArgs false
open Go.ChangeShapes Go.WideShapes Go.ChangeAt Go.RowKit Go.PlainAid
open Go.Proofs.Qxb6603772a.Pl Go.Proofs.Qxb6603772a.Bs Go.Proofs.Qxb6603772a.Wk Go.Proofs.Qxb6603772a.Kp

theorem bl_take (s : ByteArray) (k : Nat) (h : k < s.size) : (bl s).take (k + 1) = (bl s).take k ++ [bt s k] := by
  rw [List.take_succ_eq_append_getElem (by rw [bl_length]; exact h), bl_get]

theorem us_yes (every : Int) (l : List Int) (k : Nat) (hk : k < l.length) (h : usAt every k = true) : us every k (l.drop k) = [95] ++ ([l.getD k 0] ++ us every (k + 1) (l.drop (k + 1))) := by
  rw [List.drop_eq_getElem_cons hk, us, if_pos h]
  simp [hk]
theorem us_no (every : Int) (l : List Int) (k : Nat) (hk : k < l.length) (h : usAt every k = false) : us every k (l.drop k) = [l.getD k 0] ++ us every (k + 1) (l.drop (k + 1)) := by
  rw [List.drop_eq_getElem_cons hk, us, if_neg (by simp [h])]
  simp [hk]

theorem info5 : (Try.prog.info? 5).map (fun i => (i.zero, i.size, i.bytes)) = some (some (.int .u8 0), 1, 1) := by kernel_rfl

set_option maxHeartbeats 1000000 in
theorem reads_hex (v every : Int) (up : Bool) (z : Nat) (w : World) (h0 : 0 ≤ v) (h1 : v ≤ 18446744073709551615) (hz : z ≤ 4096) (he : -9223372036854775808 ≤ every) (he2 : every ≤ 9223372036854775807) :
    Calls Try.prog 7 #[.int .u64 v, .bool false, .bool up, .int .i64 z, .int .i64 every] w fun e w' => e = .returned (.bool true) ∧ Kept w w' := by
  obtain ⟨i0, hi, hz0, hz1, hz2⟩ := info_parts info5
  go_enter Try.func7, Try.ntmps7
  go_wp2_with (fail)
  refine (digits_hex _ _ _ h0 h1).mono ?_
  rintro e w1 ⟨rfl, hg1⟩
  have hk1 := Kept.of_grown hg1
  clear hg1
  generalize hD : strOfNums (digS 16 v up) = D at *
  go_wp2_with (at_make; refine wpList_make_own _ rfl _ _ 36 rfl w.heap.size 5 i0 (.int .u8 0) 1 Try.underlying36 hi hz0 hz1 _ _ _ (z + 64) rfl rfl ?m1 ?m2 ?m3 ?m4 ?_)
  case m1 => go_num
  case m2 => rw [hz2]; omega
  case m3 => unfold maxLen; omega
  case m4 => exact hk1.size
  intro w2 hown hgrow
  have hk2 := hk1.grow hgrow (fun k hk => by cases hk)
  have hR : Row w2 w.heap.size w1.heap.size (z + 64) [] := hown
  clear hown hgrow hk1
  generalize w1.heap.size = g at *
  have hgB := hR.lt.1
  go_wp2_with fail
  go_loopw [12, 13] (fun b i wr => ∃ k : Nat, k ≤ z ∧ i = .int .i64 k ∧ b = .slice (some ⟨g, 0, none⟩) k (z + 64) ∧ Row wr w.heap.size g (z + 64) (List.replicate k 48) ∧ Kept w wr)
    (fun _ i _ => z - (intOf i).toNat)
  case atStart => exact ⟨0, by omega, rfl, rfl, hR, hk2⟩
  case round =>
    clear hR hk2
    obtain ⟨k, hk, rfl, rfl, hR, hkr⟩ := hrel
    by_cases hlt : k < z
    · obtain ⟨X, HX, hown⟩ := hR.named k (by simp)
      go_wp2_with (at_builtin; refine wpList_append_fits _ rfl _ _ 36 rfl w.heap.size 5 i0 1 Try.underlying36 hi hz1 g k (z + 64) _ rfl (hown.alloc _) ⟨wr.heap.size, 0, none⟩ 1 1 [.int .u8 48] rfl rfl (cell_one_new _ _ _) ?c1 ?c2 ?_)
      case c1 => first | rfl | (intro u hu; simp at hu; subst hu; rfl)
      case c2 => omega
      intro w3 hown3 hgrow3
      have hk3 := (hkr.alloc _).grow hgrow3 (fun k hk => by simp at hk; omega)
      have hR3 : Row w3 w.heap.size g (z + 64) (List.replicate (k + 1) 48) := by
        rw [List.replicate_succ']
        exact Row.snocX HX (by simp) hown3
      clear hown hown3 hgrow3 hR hkr
      go_wp2_with fail
      go_roundw
      case rel => exact ⟨k + 1, by omega, by go_num, rfl, hR3, hk3⟩
      case measure => simp [intOf]; omega
    · obtain rfl : z = k := by omega
      clear hk hlt
      have hDs : D.size ≤ 64 := by rw [← hD, strOfNums_size]; exact digS_length _ _ _
      have hDb : bl D = digS 16 v up := by rw [← hD, bl_nums _ (digS_bytes 16 v (by omega) (by omega) up)]
      have HDb : Hid (bl D = digS 16 v up) := hDb
      clear hD hDb
      have hbD := get_bt D
      go_wp2_with fail
      go_loopw [12, 14] (fun b i wr => ∃ k : Nat, k ≤ D.size ∧ i = .int .i64 k ∧ b = .slice (some ⟨g, 0, none⟩) (z + k) (z + 64) ∧ Row wr w.heap.size g (z + 64) (List.replicate z 48 ++ (bl D).take k) ∧ Kept w wr)
        (fun _ i _ => D.size - (intOf i).toNat)
      case atStart => exact ⟨0, by omega, rfl, rfl, by simpa using hR, hkr⟩
      case round =>
        clear hR hkr
        obtain ⟨k, hk, rfl, rfl, hR, hkr⟩ := hrel
        by_cases hlt : k < D.size
        · obtain ⟨X, HX, hown⟩ := hR.named (z + k) (by simp [bl_length]; omega)
          have q0 := bt_nonneg D k
          have q1 := bt_le D k
          go_wp2_with (at_builtin; refine wpList_append_fits _ rfl _ _ 36 rfl w.heap.size 5 i0 1 Try.underlying36 hi hz1 g (z + k) (z + 64) _ rfl (hown.alloc _) ⟨wr.heap.size, 0, none⟩ 1 1 [.int .u8 (bt D k)] rfl rfl (cell_one_new _ _ _) ?d1 ?d2 ?_)
          case d1 => first | rfl | (intro u hu; simp at hu; subst hu; rfl)
          case d2 => omega
          intro w3 hown3 hgrow3
          have hk3 := (hkr.alloc _).grow hgrow3 (fun k hk => by simp at hk; omega)
          have hR3 : Row w3 w.heap.size g (z + 64) (List.replicate z 48 ++ (bl D).take (k + 1)) := by
            rw [bl_take D k hlt, ← List.append_assoc]
            exact Row.snocX HX (by simp [bl_length]; omega) hown3
          clear hown hown3 hgrow3 hR hkr
          go_wp2_with fail
          go_roundw
          case rel => exact ⟨k + 1, by omega, by go_num, rfl, hR3, hk3⟩
          case measure => simp [intOf]; omega
        · obtain rfl : D.size = k := by omega
          clear hk hlt
          have hRB : Row wr w.heap.size g (z + 64) (bodyP 16 v up z) := by
            rw [List.take_of_length_le (by rw [bl_length]; omega), HDb.out] at hR
            exact hR
          have hlB : (bodyP 16 v up z).length = z + D.size := by
            rw [← bl_length D, HDb.out]; simp [bodyP]
          clear hR
          generalize hbody : bodyP 16 v up z = Bd at *
          have HB : Hid (bodyP 16 v up z = Bd) := hbody
          clear hbody HDb hbD
          go_wp2_with fail
          refine (pfx_any _ _ _).mono ?_
          rintro e w4 ⟨rfl, hw4⟩
          rw [hw4]
          clear hw4
          have hps : (pre false up).size = 2 := rfl
          have hpb := get_bt (pre false up)
          have hp0 : bt (pre false up) 0 = 48 := rfl
          generalize hp1 : bt (pre false up) 1 = p1 at *
          have HPc : Hid (p1 = 120 ∨ p1 = 88) := by rw [← hp1]; cases up; exact .inl rfl; exact .inr rfl
          have p10 : 0 ≤ p1 := hp1 ▸ bt_nonneg _ _
          have p11 : p1 ≤ 255 := hp1 ▸ bt_le _ _
          generalize pre false up = PF at *
          go_wp2_with (at_make; refine wpList_make_own _ rfl _ _ 36 rfl w.heap.size 5 i0 (.int .u8 0) 1 Try.underlying36 hi hz0 hz1 _ _ _ (2 + 2 * (z + D.size)) rfl rfl ?n1 ?n2 ?n3 ?n4 ?_)
          case n1 => go_num
          case n2 => rw [hz2]; omega
          case n3 => unfold maxLen; omega
          case n4 => exact hkr.size
          intro w5 hown5 hgrow5
          have hk5 := hkr.grow hgrow5 (fun k hk => by cases hk)
          have hR5 : Row w5 w.heap.size wr.heap.size (2 + 2 * (z + D.size)) [] := hown5
          have hRB5 := hRB.fresh hgrow5
          have hgne : g ≠ wr.heap.size := by have := hRB.lt; omega
          have hwr := hkr.size
          clear hown5 hgrow5 hRB hkr
          generalize wr.heap.size = gT at *
          -- the two bytes ahead
          obtain ⟨X5, HX5, hown5⟩ := hR5.named 0 rfl
          go_wp2_with (at_builtin; refine wpList_append_fits _ rfl (.tmp 62) (.tmp 65) 36 rfl w.heap.size 5 i0 1 Try.underlying36 hi hz1 gT 0 (2 + 2 * (z + D.size)) X5 rfl (hown5.alloc _) ⟨w5.heap.size, 0, none⟩ 1 1 [.int .u8 48] rfl rfl (cell_one_new _ _ _) ?o1 ?o2 ?_)
          case o1 => first | rfl | (intro u hu; simp at hu; subst hu; rfl)
          case o2 => omega
          intro w6 hown6 hgrow6
          have hk6 := (hk5.alloc _).grow hgrow6 (fun k hk => by simp at hk; omega)
          have hR6 : Row w6 w.heap.size gT (2 + 2 * (z + D.size)) [48] := Row.snocX (xs := []) HX5 rfl hown6
          have hRB6 := (hRB5.alloc _).other hgrow6 hgne
          clear hown5 hown6 hgrow6 hRB5 hR5 hk5 HX5
          obtain ⟨X6, HX6, hown6⟩ := hR6.named 1 rfl
          go_wp2_with (at_builtin; refine wpList_append_fits _ rfl (.tmp 67) (.tmp 70) 36 rfl w.heap.size 5 i0 1 Try.underlying36 hi hz1 gT 1 (2 + 2 * (z + D.size)) X6 rfl (hown6.alloc _) ⟨w6.heap.size, 0, none⟩ 1 1 [.int .u8 p1] rfl rfl (cell_one_new _ _ _) ?r1 ?r2 ?_)
          case r1 => first | rfl | (intro u hu; simp at hu; subst hu; rfl)
          case r2 => omega
          intro w7 hown7 hgrow7
          have hk7 := (hk6.alloc _).grow hgrow7 (fun k hk => by simp at hk; omega)
          have hR7 : Row w7 w.heap.size gT (2 + 2 * (z + D.size)) [48, p1] := Row.snocX (xs := [48]) HX6 rfl hown7
          have hRB7 := (hRB6.alloc _).other hgrow7 hgne
          clear hown6 hown7 hgrow7 hRB6 hR6 hk6 HX6
          go_wp2_with fail
          go_loopw [16, 17] (fun b i wr => ∃ (k : Nat) (T : List Int), k ≤ Bd.length ∧ T.length ≤ 2 + 2 * k ∧ i = .int .i64 k ∧ b = .slice (some ⟨gT, 0, none⟩) T.length (2 + 2 * (z + D.size))
              ∧ Row wr w.heap.size gT (2 + 2 * (z + D.size)) T ∧ Row wr w.heap.size g (z + 64) Bd ∧ Kept w wr ∧ T ++ us every k (Bd.drop k) = [48, p1] ++ us every 0 Bd)
            (fun _ i _ => Bd.length - (intOf i).toNat)
          case atStart => exact ⟨0, [48, p1], by omega, by simp, rfl, rfl, hR7, hRB7, hk7, rfl⟩
          case round =>
            clear hR7 hRB7 hk7
            obtain ⟨k, T, hk, hTl, rfl, rfl, hR, hRB, hkr, hT⟩ := hrel
            have HT : Hid (T ++ us every k (Bd.drop k) = [48, p1] ++ us every 0 Bd) := hT
            clear hT
            by_cases hlt : k < Bd.length
            · have hcell := hRB.cell k hlt
              by_cases e0 : 0 < every
              · by_cases k0 : 0 < k
                · by_cases em : (k : Int) % every = 0
                  · have HF : Hid ((T ++ [95] ++ [Bd.getD k 0]) ++ us every (k + 1) (Bd.drop (k + 1)) = [48, p1] ++ us every 0 Bd) := by
                      show _ = _
                      rw [← HT.out, us_yes every Bd k (by omega) (by simp [usAt, e0, k0, em]), List.append_assoc, List.append_assoc]
                    clear HT
                    have em' : ((k : Int) % every == 0) = true := by simpa using em
                    clear em
                    obtain ⟨X9, HX9, hown9⟩ := hR.named T.length rfl
                    go_wp2_with (at_builtin; refine wpList_append_fits _ rfl (.tmp 90) (.tmp 91) 36 rfl w.heap.size 5 i0 1 Try.underlying36 hi hz1 gT T.length (2 + 2 * (z + D.size)) X9 rfl (hown9.alloc _) ⟨wr.heap.size, 0, none⟩ 1 1 [.int .u8 95] rfl rfl (cell_one_new _ _ _) ?u1 ?u2 ?_)
                    case u1 => first | rfl | (intro u hu; simp at hu; subst hu; rfl)
                    case u2 => omega
                    intro w9 hown10 hgrow9
                    have hk9 := (hkr.alloc _).grow hgrow9 (fun k hk => by simp at hk; omega)
                    have hR9 : Row w9 w.heap.size gT (2 + 2 * (z + D.size)) (T ++ [95]) := Row.snocX HX9 rfl hown10
                    have hRB9 := (hRB.alloc _).other hgrow9 hgne
                    have hcell9 := hRB9.cell k hlt
                    have hTl9 : (T ++ [95]).length ≤ 2 + 2 * k + 1 := by simp; omega
                    have hTe : T.length + 1 = (T ++ [95]).length := by simp
                    rw [hTe]
                    clear hown9 hown10 hgrow9 hRB hR hkr HX9 hcell hTl hTe
                    generalize T ++ [95] = T9 at *
                    obtain ⟨Xy, HXy, howny⟩ := hR9.named T9.length rfl
                    go_wp2_with (at_builtin; refine wpList_append_fits _ rfl (.tmp 93) (.tmp 98) 36 rfl w.heap.size 5 i0 1 Try.underlying36 hi hz1 gT T9.length (2 + 2 * (z + D.size)) Xy rfl (howny.alloc _) ⟨w9.heap.size, 0, none⟩ 1 1 [.int .u8 (Bd.getD k 0)] rfl rfl (cell_one_new _ _ _) ?y1 ?y2 ?_)
                    case y1 => first | rfl | (intro u hu; simp at hu; subst hu; rfl)
                    case y2 => omega
                    intro w8 hown8 hgrow8
                    have hk8 := (hk9.alloc _).grow hgrow8 (fun k hk => by simp at hk; omega)
                    have hR8 : Row w8 w.heap.size gT (2 + 2 * (z + D.size)) (T9 ++ [Bd.getD k 0]) := Row.snocX HXy rfl hown8
                    have hRB8 := (hRB9.alloc _).other hgrow8 hgne
                    clear howny hown8 hgrow8 hRB9 hR9 hk9 HXy hcell9
                    go_wp2_with fail
                    go_roundw
                    case rel => exact ⟨k + 1, T9 ++ [Bd.getD k 0], by omega, by simp; omega, by go_num, by simp, hR8, hRB8, hk8, HF.out⟩
                    case measure => simp [intOf]; omega
                  · have em' : ((k : Int) % every == 0) = false := by simpa using em
                    have HF : Hid ((T ++ [Bd.getD k 0]) ++ us every (k + 1) (Bd.drop (k + 1)) = [48, p1] ++ us every 0 Bd) := by
                      show _ = _
                      rw [← HT.out, us_no every Bd k (by omega) (by simp [usAt, em]), List.append_assoc]
                    clear HT
                    clear em
                    obtain ⟨Xq, HXq, hownq⟩ := hR.named T.length rfl
                    go_wp2_with (at_builtin; refine wpList_append_fits _ rfl (.tmp 93) (.tmp 98) 36 rfl w.heap.size 5 i0 1 Try.underlying36 hi hz1 gT T.length (2 + 2 * (z + D.size)) Xq rfl (hownq.alloc _) ⟨wr.heap.size, 0, none⟩ 1 1 [.int .u8 (Bd.getD k 0)] rfl rfl (cell_one_new _ _ _) ?q1 ?q2 ?_)
                    case q1 => first | rfl | (intro u hu; simp at hu; subst hu; rfl)
                    case q2 => omega
                    intro w8 hown8 hgrow8
                    have hk8 := (hkr.alloc _).grow hgrow8 (fun k hk => by simp at hk; omega)
                    have hR8 : Row w8 w.heap.size gT (2 + 2 * (z + D.size)) (T ++ [Bd.getD k 0]) := Row.snocX HXq rfl hown8
                    have hRB8 := (hRB.alloc _).other hgrow8 hgne
                    clear hownq hown8 hgrow8 hRB hR hkr HXq hcell
                    go_wp2_with fail
                    go_roundw
                    case rel => exact ⟨k + 1, T ++ [Bd.getD k 0], by omega, by simp; omega, by go_num, by simp, hR8, hRB8, hk8, HF.out⟩
                    case measure => simp [intOf]; omega
                · obtain rfl : k = 0 := by omega
                  have HF : Hid ((T ++ [Bd.getD 0 0]) ++ us every (0 + 1) (Bd.drop (0 + 1)) = [48, p1] ++ us every 0 Bd) := by
                    show _ = _
                    rw [← HT.out, us_no every Bd 0 (by omega) (by simp [usAt]), List.append_assoc]
                  clear HT
                  obtain ⟨Xr, HXr, hownr⟩ := hR.named T.length rfl
                  go_wp2_with (at_builtin; refine wpList_append_fits _ rfl (.tmp 93) (.tmp 98) 36 rfl w.heap.size 5 i0 1 Try.underlying36 hi hz1 gT T.length (2 + 2 * (z + D.size)) Xr rfl (hownr.alloc _) ⟨wr.heap.size, 0, none⟩ 1 1 [.int .u8 (Bd.getD 0 0)] rfl rfl (cell_one_new _ _ _) ?r1 ?r2 ?_)
                  case r1 => first | rfl | (intro u hu; simp at hu; subst hu; rfl)
                  case r2 => omega
                  intro w8 hown8 hgrow8
                  have hk8 := (hkr.alloc _).grow hgrow8 (fun k hk => by simp at hk; omega)
                  have hR8 : Row w8 w.heap.size gT (2 + 2 * (z + D.size)) (T ++ [Bd.getD 0 0]) := Row.snocX HXr rfl hown8
                  have hRB8 := (hRB.alloc _).other hgrow8 hgne
                  clear hownr hown8 hgrow8 hRB hR hkr HXr hcell
                  go_wp2_with fail
                  go_roundw
                  case rel => exact ⟨0 + 1, T ++ [Bd.getD 0 0], by omega, by simp; omega, by go_num, by simp, hR8, hRB8, hk8, HF.out⟩
                  case measure => simp [intOf]; omega
              · skip
                have HF : Hid ((T ++ [Bd.getD k 0]) ++ us every (k + 1) (Bd.drop (k + 1)) = [48, p1] ++ us every 0 Bd) := by
                  show _ = _
                  rw [← HT.out, us_no every Bd k (by omega) (by simp [usAt, e0]), List.append_assoc]
                clear HT
                obtain ⟨Xs, HXs, howns⟩ := hR.named T.length rfl
                go_wp2_with (at_builtin; refine wpList_append_fits _ rfl (.tmp 93) (.tmp 98) 36 rfl w.heap.size 5 i0 1 Try.underlying36 hi hz1 gT T.length (2 + 2 * (z + D.size)) Xs rfl (howns.alloc _) ⟨wr.heap.size, 0, none⟩ 1 1 [.int .u8 (Bd.getD k 0)] rfl rfl (cell_one_new _ _ _) ?s1 ?s2 ?_)
                case s1 => first | rfl | (intro u hu; simp at hu; subst hu; rfl)
                case s2 => omega
                intro w8 hown8 hgrow8
                have hk8 := (hkr.alloc _).grow hgrow8 (fun k hk => by simp at hk; omega)
                have hR8 : Row w8 w.heap.size gT (2 + 2 * (z + D.size)) (T ++ [Bd.getD k 0]) := Row.snocX HXs rfl hown8
                have hRB8 := (hRB.alloc _).other hgrow8 hgne
                clear howns hown8 hgrow8 hRB hR hkr HXs hcell
                go_wp2_with fail
                go_roundw
                case rel => exact ⟨k + 1, T ++ [Bd.getD k 0], by omega, by simp; omega, by go_num, by simp, hR8, hRB8, hk8, HF.out⟩
                case measure => simp [intOf]; omega
            · obtain rfl : Bd.length = k := by omega
              have HF : Hid (T = [48, p1] ++ us every 0 Bd) := by
                have h := HT.out
                rw [List.drop_length, us, List.append_nil] at h
                exact h
              clear HT
              have hcv := run_convert_bytes_arg wr (P := Try.prog) 36 5 Try.underlying36 Try.underlying5 gT 0 T.length (2 + 2 * (z + D.size)) T rfl
                (fun i hi => by rw [Nat.zero_add]; exact hR.cell i hi) 9 Try.underlying9
              have hTs : (strOfNums T).size ≤ maxLen := by rw [strOfNums_size]; unfold maxLen; omega
              have HZ : Hid (radixP (bl (strOfNums T)) = (v, true, true)) := by
                show _ = _
                have hbb : ∀ c ∈ Bd, 0 ≤ c ∧ c ≤ 255 := by rw [← HB.out]; exact bodyP_bytes 16 v (by omega) (by omega) up z
                rw [bl_nums T (by
                  intro c hc
                  rw [HF.out] at hc
                  rcases List.mem_append.1 hc with h | h
                  · simp at h; omega
                  · exact us_bytes every Bd 0 hbb c h), HF.out]
                show radixP (48 :: p1 :: us every 0 Bd) = _
                rw [radixP_text, if_pos HPc.out, ← HB.out, rx_body 16 L16 v every (by omega) (by omega) (by decide) (by decide) (by decide) up z h0 h1]
                rfl
              generalize strOfNums T = TT at *
              go_wp2_with fail
              refine (ZZradix_any _ _ hTs).mono ?_
              rintro e w10 ⟨rfl, hw10⟩
              rw [hw10, HZ.out]
              go_wp2_with fail
              go_ret
              exact ⟨rfl, hkr⟩
set_option maxHeartbeats 1000000 in
theorem reads_bin (v every : Int) (up : Bool) (z : Nat) (w : World) (h0 : 0 ≤ v) (h1 : v ≤ 18446744073709551615) (hz : z ≤ 4096) (he : -9223372036854775808 ≤ every) (he2 : every ≤ 9223372036854775807) :
    Calls Try.prog 7 #[.int .u64 v, .bool true, .bool up, .int .i64 z, .int .i64 every] w fun e w' => e = .returned (.bool true) ∧ Kept w w' := by
  obtain ⟨i0, hi, hz0, hz1, hz2⟩ := info_parts info5
  go_enter Try.func7, Try.ntmps7
  go_wp2_with (fail)
  refine (digits_bin _ _ _ h0 h1).mono ?_
  rintro e w1 ⟨rfl, hg1⟩
  have hk1 := Kept.of_grown hg1
  clear hg1
  generalize hD : strOfNums (digS 2 v up) = D at *
  go_wp2_with (at_make; refine wpList_make_own _ rfl _ _ 36 rfl w.heap.size 5 i0 (.int .u8 0) 1 Try.underlying36 hi hz0 hz1 _ _ _ (z + 64) rfl rfl ?m1 ?m2 ?m3 ?m4 ?_)
  case m1 => go_num
  case m2 => rw [hz2]; omega
  case m3 => unfold maxLen; omega
  case m4 => exact hk1.size
  intro w2 hown hgrow
  have hk2 := hk1.grow hgrow (fun k hk => by cases hk)
  have hR : Row w2 w.heap.size w1.heap.size (z + 64) [] := hown
  clear hown hgrow hk1
  generalize w1.heap.size = g at *
  have hgB := hR.lt.1
  go_wp2_with fail
  go_loopw [12, 13] (fun b i wr => ∃ k : Nat, k ≤ z ∧ i = .int .i64 k ∧ b = .slice (some ⟨g, 0, none⟩) k (z + 64) ∧ Row wr w.heap.size g (z + 64) (List.replicate k 48) ∧ Kept w wr)
    (fun _ i _ => z - (intOf i).toNat)
  case atStart => exact ⟨0, by omega, rfl, rfl, hR, hk2⟩
  case round =>
    clear hR hk2
    obtain ⟨k, hk, rfl, rfl, hR, hkr⟩ := hrel
    by_cases hlt : k < z
    · obtain ⟨X, HX, hown⟩ := hR.named k (by simp)
      go_wp2_with (at_builtin; refine wpList_append_fits _ rfl _ _ 36 rfl w.heap.size 5 i0 1 Try.underlying36 hi hz1 g k (z + 64) _ rfl (hown.alloc _) ⟨wr.heap.size, 0, none⟩ 1 1 [.int .u8 48] rfl rfl (cell_one_new _ _ _) ?c1 ?c2 ?_)
      case c1 => first | rfl | (intro u hu; simp at hu; subst hu; rfl)
      case c2 => omega
      intro w3 hown3 hgrow3
      have hk3 := (hkr.alloc _).grow hgrow3 (fun k hk => by simp at hk; omega)
      have hR3 : Row w3 w.heap.size g (z + 64) (List.replicate (k + 1) 48) := by
        rw [List.replicate_succ']
        exact Row.snocX HX (by simp) hown3
      clear hown hown3 hgrow3 hR hkr
      go_wp2_with fail
      go_roundw
      case rel => exact ⟨k + 1, by omega, by go_num, rfl, hR3, hk3⟩
      case measure => simp [intOf]; omega
    · obtain rfl : z = k := by omega
      clear hk hlt
      have hDs : D.size ≤ 64 := by rw [← hD, strOfNums_size]; exact digS_length _ _ _
      have hDb : bl D = digS 2 v up := by rw [← hD, bl_nums _ (digS_bytes 2 v (by omega) (by omega) up)]
      have HDb : Hid (bl D = digS 2 v up) := hDb
      clear hD hDb
      have hbD := get_bt D
      go_wp2_with fail
      go_loopw [12, 14] (fun b i wr => ∃ k : Nat, k ≤ D.size ∧ i = .int .i64 k ∧ b = .slice (some ⟨g, 0, none⟩) (z + k) (z + 64) ∧ Row wr w.heap.size g (z + 64) (List.replicate z 48 ++ (bl D).take k) ∧ Kept w wr)
        (fun _ i _ => D.size - (intOf i).toNat)
      case atStart => exact ⟨0, by omega, rfl, rfl, by simpa using hR, hkr⟩
      case round =>
        clear hR hkr
        obtain ⟨k, hk, rfl, rfl, hR, hkr⟩ := hrel
        by_cases hlt : k < D.size
        · obtain ⟨X, HX, hown⟩ := hR.named (z + k) (by simp [bl_length]; omega)
          have q0 := bt_nonneg D k
          have q1 := bt_le D k
          go_wp2_with (at_builtin; refine wpList_append_fits _ rfl _ _ 36 rfl w.heap.size 5 i0 1 Try.underlying36 hi hz1 g (z + k) (z + 64) _ rfl (hown.alloc _) ⟨wr.heap.size, 0, none⟩ 1 1 [.int .u8 (bt D k)] rfl rfl (cell_one_new _ _ _) ?d1 ?d2 ?_)
          case d1 => first | rfl | (intro u hu; simp at hu; subst hu; rfl)
          case d2 => omega
          intro w3 hown3 hgrow3
          have hk3 := (hkr.alloc _).grow hgrow3 (fun k hk => by simp at hk; omega)
          have hR3 : Row w3 w.heap.size g (z + 64) (List.replicate z 48 ++ (bl D).take (k + 1)) := by
            rw [bl_take D k hlt, ← List.append_assoc]
            exact Row.snocX HX (by simp [bl_length]; omega) hown3
          clear hown hown3 hgrow3 hR hkr
          go_wp2_with fail
          go_roundw
          case rel => exact ⟨k + 1, by omega, by go_num, rfl, hR3, hk3⟩
          case measure => simp [intOf]; omega
        · obtain rfl : D.size = k := by omega
          clear hk hlt
          have hRB : Row wr w.heap.size g (z + 64) (bodyP 2 v up z) := by
            rw [List.take_of_length_le (by rw [bl_length]; omega), HDb.out] at hR
            exact hR
          have hlB : (bodyP 2 v up z).length = z + D.size := by
            rw [← bl_length D, HDb.out]; simp [bodyP]
          clear hR
          generalize hbody : bodyP 2 v up z = Bd at *
          have HB : Hid (bodyP 2 v up z = Bd) := hbody
          clear hbody HDb hbD
          go_wp2_with fail
          refine (pfx_any _ _ _).mono ?_
          rintro e w4 ⟨rfl, hw4⟩
          rw [hw4]
          clear hw4
          have hps : (pre true up).size = 2 := rfl
          have hpb := get_bt (pre true up)
          have hp0 : bt (pre true up) 0 = 48 := rfl
          generalize hp1 : bt (pre true up) 1 = p1 at *
          have HPc : Hid (p1 = 98 ∨ p1 = 66) := by rw [← hp1]; cases up; exact .inl rfl; exact .inr rfl
          have p10 : 0 ≤ p1 := hp1 ▸ bt_nonneg _ _
          have p11 : p1 ≤ 255 := hp1 ▸ bt_le _ _
          generalize pre true up = PF at *
          go_wp2_with (at_make; refine wpList_make_own _ rfl _ _ 36 rfl w.heap.size 5 i0 (.int .u8 0) 1 Try.underlying36 hi hz0 hz1 _ _ _ (2 + 2 * (z + D.size)) rfl rfl ?n1 ?n2 ?n3 ?n4 ?_)
          case n1 => go_num
          case n2 => rw [hz2]; omega
          case n3 => unfold maxLen; omega
          case n4 => exact hkr.size
          intro w5 hown5 hgrow5
          have hk5 := hkr.grow hgrow5 (fun k hk => by cases hk)
          have hR5 : Row w5 w.heap.size wr.heap.size (2 + 2 * (z + D.size)) [] := hown5
          have hRB5 := hRB.fresh hgrow5
          have hgne : g ≠ wr.heap.size := by have := hRB.lt; omega
          have hwr := hkr.size
          clear hown5 hgrow5 hRB hkr
          generalize wr.heap.size = gT at *
          -- the two bytes ahead
          obtain ⟨X5, HX5, hown5⟩ := hR5.named 0 rfl
          go_wp2_with (at_builtin; refine wpList_append_fits _ rfl (.tmp 62) (.tmp 65) 36 rfl w.heap.size 5 i0 1 Try.underlying36 hi hz1 gT 0 (2 + 2 * (z + D.size)) X5 rfl (hown5.alloc _) ⟨w5.heap.size, 0, none⟩ 1 1 [.int .u8 48] rfl rfl (cell_one_new _ _ _) ?o1 ?o2 ?_)
          case o1 => first | rfl | (intro u hu; simp at hu; subst hu; rfl)
          case o2 => omega
          intro w6 hown6 hgrow6
          have hk6 := (hk5.alloc _).grow hgrow6 (fun k hk => by simp at hk; omega)
          have hR6 : Row w6 w.heap.size gT (2 + 2 * (z + D.size)) [48] := Row.snocX (xs := []) HX5 rfl hown6
          have hRB6 := (hRB5.alloc _).other hgrow6 hgne
          clear hown5 hown6 hgrow6 hRB5 hR5 hk5 HX5
          obtain ⟨X6, HX6, hown6⟩ := hR6.named 1 rfl
          go_wp2_with (at_builtin; refine wpList_append_fits _ rfl (.tmp 67) (.tmp 70) 36 rfl w.heap.size 5 i0 1 Try.underlying36 hi hz1 gT 1 (2 + 2 * (z + D.size)) X6 rfl (hown6.alloc _) ⟨w6.heap.size, 0, none⟩ 1 1 [.int .u8 p1] rfl rfl (cell_one_new _ _ _) ?r1 ?r2 ?_)
          case r1 => first | rfl | (intro u hu; simp at hu; subst hu; rfl)
          case r2 => omega
          intro w7 hown7 hgrow7
          have hk7 := (hk6.alloc _).grow hgrow7 (fun k hk => by simp at hk; omega)
          have hR7 : Row w7 w.heap.size gT (2 + 2 * (z + D.size)) [48, p1] := Row.snocX (xs := [48]) HX6 rfl hown7
          have hRB7 := (hRB6.alloc _).other hgrow7 hgne
          clear hown6 hown7 hgrow7 hRB6 hR6 hk6 HX6
          go_wp2_with fail
          go_loopw [16, 17] (fun b i wr => ∃ (k : Nat) (T : List Int), k ≤ Bd.length ∧ T.length ≤ 2 + 2 * k ∧ i = .int .i64 k ∧ b = .slice (some ⟨gT, 0, none⟩) T.length (2 + 2 * (z + D.size))
              ∧ Row wr w.heap.size gT (2 + 2 * (z + D.size)) T ∧ Row wr w.heap.size g (z + 64) Bd ∧ Kept w wr ∧ T ++ us every k (Bd.drop k) = [48, p1] ++ us every 0 Bd)
            (fun _ i _ => Bd.length - (intOf i).toNat)
          case atStart => exact ⟨0, [48, p1], by omega, by simp, rfl, rfl, hR7, hRB7, hk7, rfl⟩
          case round =>
            clear hR7 hRB7 hk7
            obtain ⟨k, T, hk, hTl, rfl, rfl, hR, hRB, hkr, hT⟩ := hrel
            have HT : Hid (T ++ us every k (Bd.drop k) = [48, p1] ++ us every 0 Bd) := hT
            clear hT
            by_cases hlt : k < Bd.length
            · have hcell := hRB.cell k hlt
              by_cases e0 : 0 < every
              · by_cases k0 : 0 < k
                · by_cases em : (k : Int) % every = 0
                  · have HF : Hid ((T ++ [95] ++ [Bd.getD k 0]) ++ us every (k + 1) (Bd.drop (k + 1)) = [48, p1] ++ us every 0 Bd) := by
                      show _ = _
                      rw [← HT.out, us_yes every Bd k (by omega) (by simp [usAt, e0, k0, em]), List.append_assoc, List.append_assoc]
                    clear HT
                    have em' : ((k : Int) % every == 0) = true := by simpa using em
                    clear em
                    obtain ⟨X9, HX9, hown9⟩ := hR.named T.length rfl
                    go_wp2_with (at_builtin; refine wpList_append_fits _ rfl (.tmp 90) (.tmp 91) 36 rfl w.heap.size 5 i0 1 Try.underlying36 hi hz1 gT T.length (2 + 2 * (z + D.size)) X9 rfl (hown9.alloc _) ⟨wr.heap.size, 0, none⟩ 1 1 [.int .u8 95] rfl rfl (cell_one_new _ _ _) ?u1 ?u2 ?_)
                    case u1 => first | rfl | (intro u hu; simp at hu; subst hu; rfl)
                    case u2 => omega
                    intro w9 hown10 hgrow9
                    have hk9 := (hkr.alloc _).grow hgrow9 (fun k hk => by simp at hk; omega)
                    have hR9 : Row w9 w.heap.size gT (2 + 2 * (z + D.size)) (T ++ [95]) := Row.snocX HX9 rfl hown10
                    have hRB9 := (hRB.alloc _).other hgrow9 hgne
                    have hcell9 := hRB9.cell k hlt
                    have hTl9 : (T ++ [95]).length ≤ 2 + 2 * k + 1 := by simp; omega
                    have hTe : T.length + 1 = (T ++ [95]).length := by simp
                    rw [hTe]
                    clear hown9 hown10 hgrow9 hRB hR hkr HX9 hcell hTl hTe
                    generalize T ++ [95] = T9 at *
                    obtain ⟨Xy, HXy, howny⟩ := hR9.named T9.length rfl
                    go_wp2_with (at_builtin; refine wpList_append_fits _ rfl (.tmp 93) (.tmp 98) 36 rfl w.heap.size 5 i0 1 Try.underlying36 hi hz1 gT T9.length (2 + 2 * (z + D.size)) Xy rfl (howny.alloc _) ⟨w9.heap.size, 0, none⟩ 1 1 [.int .u8 (Bd.getD k 0)] rfl rfl (cell_one_new _ _ _) ?y1 ?y2 ?_)
                    case y1 => first | rfl | (intro u hu; simp at hu; subst hu; rfl)
                    case y2 => omega
                    intro w8 hown8 hgrow8
                    have hk8 := (hk9.alloc _).grow hgrow8 (fun k hk => by simp at hk; omega)
                    have hR8 : Row w8 w.heap.size gT (2 + 2 * (z + D.size)) (T9 ++ [Bd.getD k 0]) := Row.snocX HXy rfl hown8
                    have hRB8 := (hRB9.alloc _).other hgrow8 hgne
                    clear howny hown8 hgrow8 hRB9 hR9 hk9 HXy hcell9
                    go_wp2_with fail
                    go_roundw
                    case rel => exact ⟨k + 1, T9 ++ [Bd.getD k 0], by omega, by simp; omega, by go_num, by simp, hR8, hRB8, hk8, HF.out⟩
                    case measure => simp [intOf]; omega
                  · have em' : ((k : Int) % every == 0) = false := by simpa using em
                    have HF : Hid ((T ++ [Bd.getD k 0]) ++ us every (k + 1) (Bd.drop (k + 1)) = [48, p1] ++ us every 0 Bd) := by
                      show _ = _
                      rw [← HT.out, us_no every Bd k (by omega) (by simp [usAt, em]), List.append_assoc]
                    clear HT
                    clear em
                    obtain ⟨Xq, HXq, hownq⟩ := hR.named T.length rfl
                    go_wp2_with (at_builtin; refine wpList_append_fits _ rfl (.tmp 93) (.tmp 98) 36 rfl w.heap.size 5 i0 1 Try.underlying36 hi hz1 gT T.length (2 + 2 * (z + D.size)) Xq rfl (hownq.alloc _) ⟨wr.heap.size, 0, none⟩ 1 1 [.int .u8 (Bd.getD k 0)] rfl rfl (cell_one_new _ _ _) ?q1 ?q2 ?_)
                    case q1 => first | rfl | (intro u hu; simp at hu; subst hu; rfl)
                    case q2 => omega
                    intro w8 hown8 hgrow8
                    have hk8 := (hkr.alloc _).grow hgrow8 (fun k hk => by simp at hk; omega)
                    have hR8 : Row w8 w.heap.size gT (2 + 2 * (z + D.size)) (T ++ [Bd.getD k 0]) := Row.snocX HXq rfl hown8
                    have hRB8 := (hRB.alloc _).other hgrow8 hgne
                    clear hownq hown8 hgrow8 hRB hR hkr HXq hcell
                    go_wp2_with fail
                    go_roundw
                    case rel => exact ⟨k + 1, T ++ [Bd.getD k 0], by omega, by simp; omega, by go_num, by simp, hR8, hRB8, hk8, HF.out⟩
                    case measure => simp [intOf]; omega
                · obtain rfl : k = 0 := by omega
                  have HF : Hid ((T ++ [Bd.getD 0 0]) ++ us every (0 + 1) (Bd.drop (0 + 1)) = [48, p1] ++ us every 0 Bd) := by
                    show _ = _
                    rw [← HT.out, us_no every Bd 0 (by omega) (by simp [usAt]), List.append_assoc]
                  clear HT
                  obtain ⟨Xr, HXr, hownr⟩ := hR.named T.length rfl
                  go_wp2_with (at_builtin; refine wpList_append_fits _ rfl (.tmp 93) (.tmp 98) 36 rfl w.heap.size 5 i0 1 Try.underlying36 hi hz1 gT T.length (2 + 2 * (z + D.size)) Xr rfl (hownr.alloc _) ⟨wr.heap.size, 0, none⟩ 1 1 [.int .u8 (Bd.getD 0 0)] rfl rfl (cell_one_new _ _ _) ?r1 ?r2 ?_)
                  case r1 => first | rfl | (intro u hu; simp at hu; subst hu; rfl)
                  case r2 => omega
                  intro w8 hown8 hgrow8
                  have hk8 := (hkr.alloc _).grow hgrow8 (fun k hk => by simp at hk; omega)
                  have hR8 : Row w8 w.heap.size gT (2 + 2 * (z + D.size)) (T ++ [Bd.getD 0 0]) := Row.snocX HXr rfl hown8
                  have hRB8 := (hRB.alloc _).other hgrow8 hgne
                  clear hownr hown8 hgrow8 hRB hR hkr HXr hcell
                  go_wp2_with fail
                  go_roundw
                  case rel => exact ⟨0 + 1, T ++ [Bd.getD 0 0], by omega, by simp; omega, by go_num, by simp, hR8, hRB8, hk8, HF.out⟩
                  case measure => simp [intOf]; omega
              · skip
                have HF : Hid ((T ++ [Bd.getD k 0]) ++ us every (k + 1) (Bd.drop (k + 1)) = [48, p1] ++ us every 0 Bd) := by
                  show _ = _
                  rw [← HT.out, us_no every Bd k (by omega) (by simp [usAt, e0]), List.append_assoc]
                clear HT
                obtain ⟨Xs, HXs, howns⟩ := hR.named T.length rfl
                go_wp2_with (at_builtin; refine wpList_append_fits _ rfl (.tmp 93) (.tmp 98) 36 rfl w.heap.size 5 i0 1 Try.underlying36 hi hz1 gT T.length (2 + 2 * (z + D.size)) Xs rfl (howns.alloc _) ⟨wr.heap.size, 0, none⟩ 1 1 [.int .u8 (Bd.getD k 0)] rfl rfl (cell_one_new _ _ _) ?s1 ?s2 ?_)
                case s1 => first | rfl | (intro u hu; simp at hu; subst hu; rfl)
                case s2 => omega
                intro w8 hown8 hgrow8
                have hk8 := (hkr.alloc _).grow hgrow8 (fun k hk => by simp at hk; omega)
                have hR8 : Row w8 w.heap.size gT (2 + 2 * (z + D.size)) (T ++ [Bd.getD k 0]) := Row.snocX HXs rfl hown8
                have hRB8 := (hRB.alloc _).other hgrow8 hgne
                clear howns hown8 hgrow8 hRB hR hkr HXs hcell
                go_wp2_with fail
                go_roundw
                case rel => exact ⟨k + 1, T ++ [Bd.getD k 0], by omega, by simp; omega, by go_num, by simp, hR8, hRB8, hk8, HF.out⟩
                case measure => simp [intOf]; omega
            · obtain rfl : Bd.length = k := by omega
              have HF : Hid (T = [48, p1] ++ us every 0 Bd) := by
                have h := HT.out
                rw [List.drop_length, us, List.append_nil] at h
                exact h
              clear HT
              have hcv := run_convert_bytes_arg wr (P := Try.prog) 36 5 Try.underlying36 Try.underlying5 gT 0 T.length (2 + 2 * (z + D.size)) T rfl
                (fun i hi => by rw [Nat.zero_add]; exact hR.cell i hi) 9 Try.underlying9
              have hTs : (strOfNums T).size ≤ maxLen := by rw [strOfNums_size]; unfold maxLen; omega
              have HZ : Hid (radixP (bl (strOfNums T)) = (v, true, true)) := by
                show _ = _
                have hbb : ∀ c ∈ Bd, 0 ≤ c ∧ c ≤ 255 := by rw [← HB.out]; exact bodyP_bytes 2 v (by omega) (by omega) up z
                rw [bl_nums T (by
                  intro c hc
                  rw [HF.out] at hc
                  rcases List.mem_append.1 hc with h | h
                  · simp at h; omega
                  · exact us_bytes every Bd 0 hbb c h), HF.out]
                show radixP (48 :: p1 :: us every 0 Bd) = _
                rw [radixP_text, if_neg (by have := HPc.out; omega), if_pos HPc.out, ← HB.out, rx_body 2 L2 v every (by omega) (by omega) (by decide) (by decide) (by decide) up z h0 h1]
                rfl
              generalize strOfNums T = TT at *
              go_wp2_with fail
              refine (ZZradix_any _ _ hTs).mono ?_
              rintro e w10 ⟨rfl, hw10⟩
              rw [hw10, HZ.out]
              go_wp2_with fail
              go_ret
              exact ⟨rfl, hkr⟩

/-- The count of zeros is out of its range: the law waves it through. -/
theorem reads_wave (v zeros every : Int) (bin up : Bool) (w : World) (h : zeros < 0 ∨ 4096 < zeros) :
    Calls Try.prog 7 #[.int .u64 v, .bool bin, .bool up, .int .i64 zeros, .int .i64 every] w fun e w' => e = .returned (.bool true) ∧ Kept w w' := by
  rcases h with h | h
  · go_enter Try.func7, Try.ntmps7
    go_wp2_with fail
    go_ret
    exact ⟨rfl, Kept.refl _⟩
  · have h2 : ¬ zeros < 0 := by omega
    go_enter Try.func7, Try.ntmps7
    go_wp2_with fail
    go_ret
    exact ⟨rfl, Kept.refl _⟩

theorem reads_any (v zeros every : Int) (bin up : Bool) (w : World) (h0 : 0 ≤ v) (h1 : v ≤ 18446744073709551615) (he : -9223372036854775808 ≤ every) (he2 : every ≤ 9223372036854775807) :
    Calls Try.prog 7 #[.int .u64 v, .bool bin, .bool up, .int .i64 zeros, .int .i64 every] w fun e w' => e = .returned (.bool true) ∧ Kept w w' := by
  by_cases hz : zeros < 0 ∨ 4096 < zeros
  · exact reads_wave v zeros every bin up w hz
  · obtain ⟨z, rfl⟩ := Int.eq_ofNat_of_zero_le (show 0 ≤ zeros by omega)
    cases bin
    · exact reads_hex v every up z w h0 h1 (by omega) he he2
    · exact reads_bin v every up z w h0 h1 (by omega) he he2

end Go.Proofs.Qxb6603772a.Rd
