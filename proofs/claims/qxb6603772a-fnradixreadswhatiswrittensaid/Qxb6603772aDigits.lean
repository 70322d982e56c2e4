/- The walks of what writes a number: b1DigitChar, b1Prefix, b1Digits. -/
import Derived.Test.Qxb6603772aBase
import Derived.Test.Qxb6603772aWrite
import Derived.Laws.BytesArg
namespace Go.Proofs.Qxb6603772a.Wk
set_option linter.unusedVariables false
set_option linter.unusedSimpArgs false
open Go.ChangeShapes Go.WideShapes Go.ChangeAt Go.RowKit Go.PlainAid
open Go.Proofs.Qxb6603772a.Pl Go.Proofs.Qxb6603772a.Bs

set_option maxHeartbeats 400000 in
theorem digitChar_any (d : Int) (up : Bool) (w : World) (h0 : 0 ≤ d) (h1 : d < 16) :
    Calls Try.prog 23 #[.int .u64 d, .bool up] w fun e w' => e = .returned (.int .u8 (dch d up)) ∧ w' = w := by
  unfold dch
  by_cases h : d < 10
  · rw [if_pos h]
    go_enter Try.func23, Try.ntmps23
    go_wp2
    go_ret
    exact ⟨rfl, rfl⟩
  · rw [if_neg h]
    cases up
    · go_enter Try.func23, Try.ntmps23
      go_wp2
      go_ret
      exact ⟨ret_int (by first | omega | (simp only []; omega)), rfl⟩
    · go_enter Try.func23, Try.ntmps23
      go_wp2
      go_ret
      exact ⟨ret_int (by first | omega | (simp only []; omega)), rfl⟩

def pre (bin up : Bool) : ByteArray := ⟨#[48, if bin = true then (if up = true then 66 else 98) else (if up = true then 88 else 120)]⟩

set_option maxHeartbeats 400000 in
theorem pfx_any (bin up : Bool) (w : World) :
    Calls Try.prog 22 #[.bool bin, .bool up] w fun e w' => e = .returned (.string (pre bin up)) ∧ w' = w := by
  cases bin <;> cases up
  all_goals
    go_enter Try.func22, Try.ntmps22
    go_wp2
    go_ret
    exact ⟨rfl, rfl⟩


/-- 64 cells: the bytes xs, then zeros. -/
def rowOf (xs : List Int) : Array Value := ((xs ++ List.replicate (64 - xs.length) 0).map (Value.int .u8)).toArray

theorem rowOf_size (xs : List Int) (h : xs.length ≤ 64) : (rowOf xs).size = 64 := by simp [rowOf]; omega

theorem rowOf_nil : rowOf [] = #[.int .u8 0, .int .u8 0, .int .u8 0, .int .u8 0, .int .u8 0, .int .u8 0, .int .u8 0, .int .u8 0, .int .u8 0, .int .u8 0, .int .u8 0, .int .u8 0, .int .u8 0, .int .u8 0, .int .u8 0, .int .u8 0, .int .u8 0, .int .u8 0, .int .u8 0, .int .u8 0, .int .u8 0, .int .u8 0, .int .u8 0, .int .u8 0, .int .u8 0, .int .u8 0, .int .u8 0, .int .u8 0, .int .u8 0, .int .u8 0, .int .u8 0, .int .u8 0, .int .u8 0, .int .u8 0, .int .u8 0, .int .u8 0, .int .u8 0, .int .u8 0, .int .u8 0, .int .u8 0, .int .u8 0, .int .u8 0, .int .u8 0, .int .u8 0, .int .u8 0, .int .u8 0, .int .u8 0, .int .u8 0, .int .u8 0, .int .u8 0, .int .u8 0, .int .u8 0, .int .u8 0, .int .u8 0, .int .u8 0, .int .u8 0, .int .u8 0, .int .u8 0, .int .u8 0, .int .u8 0, .int .u8 0, .int .u8 0, .int .u8 0, .int .u8 0] := rfl


theorem rowOf_set (xs : List Int) (c : Int) (h : xs.length < 64) : (rowOf xs).setIfInBounds xs.length (.int .u8 c) = rowOf (xs ++ [c]) := by
  have e : 64 - xs.length = (64 - (xs.length + 1)) + 1 := by omega
  unfold rowOf
  rw [e, List.replicate_succ]
  apply Array.ext'
  simp

theorem rowOf_get (xs : List Int) (i : Nat) (h : i < xs.length) : (rowOf xs)[i]? = some (.int .u8 (xs.getD i 0)) := by
  unfold rowOf
  simp [List.getElem?_append_left, h]

theorem rowOf_cell (w : World) (R : Array Value) (xs : List Int) (i : Nat) (h : i < xs.length) :
    ((w.alloc (.cells R 53)).alloc (.cells (rowOf xs) 53)).cell? ⟨w.heap.size + 1, 0 + i, none⟩ = some (.int .u8 (xs.getD i 0)) := by
  rw [Nat.zero_add]
  have h2 := rowOf_get xs i h
  simp [h2]

theorem len53 : Try.prog.arrayLen 53 = 64 := by kernel_rfl
theorem elem53 : Try.prog.elem 53 = 5 := by kernel_rfl
theorem size5 (w : World) : (sizeOf 5).run Try.prog w = .ok 1 w := by kernel_rfl
theorem slice53 (w : World) (b n : Nat) (h : n ≤ 64) :
    (Instr.sliceAt 53 (.pointer (some ⟨b, 0, none⟩)) none (some (.int .i64 (n : Int))) none).run Try.prog w = .ok (.slice (some ⟨b, 0, none⟩) n 64) w := by
  rw [run_sliceAt_array_h w 53 ⟨b, 0, none⟩ (by kernel_rfl) .i64 n (by omega) (by rw [len53]; omega), elem53, size5, len53]
  simp [Result.andThen, slicedAt, Addr.add]

theorem rowOf_some (xs : List Int) (k : Nat) (h : xs.length ≤ 64) (hk : k < 64) : ∃ v, (rowOf xs)[k]? = some v :=
  ⟨_, Array.getElem?_eq_getElem (by rw [rowOf_size xs h]; exact hk)⟩

theorem take_rev (cs : List Int) (k : Nat) (h : k < cs.length) : cs.reverse.take k ++ [cs.getD (cs.length - 1 - k) 0] = cs.reverse.take (k + 1) := by
  rw [List.take_succ_eq_append_getElem (by simpa using h)]
  simp
  rw [List.getElem?_eq_getElem (by omega)]
  rfl

set_option maxHeartbeats 400000 in
theorem digits_hex (v : Int) (up : Bool) (w : World) (h0 : 0 ≤ v) (h1 : v ≤ 18446744073709551615) :
    Calls Try.prog 21 #[.int .u64 v, .bool false, .bool up] w fun e w' => e = .returned (.string (strOfNums (digS 16 v up))) ∧ Grown w w' := by
  go_enter Try.func21, Try.ntmps21
  go_wp2_with fail
  go_loopw [9, 0] (fun n a wr => ∃ (es : List Int) (x : Int), n = .int .i64 es.length ∧ a = .int .u64 x ∧ 0 ≤ x ∧ x ≤ 18446744073709551615
      ∧ wr = w.alloc (.cells (rowOf (es.map fun d => dch d up)) 53) ∧ DR 16 v es x) (fun _ a _ => (intOf a).toNat)
  case atStart => exact ⟨[], v, rfl, rfl, h0, h1, by rw [List.map_nil, rowOf_nil], DR_start _ _ (Int.lt_of_le_of_lt h1 (by decide))⟩
  case round =>
    obtain ⟨es, x, rfl, rfl, hx0, hx1, rfl, hdr⟩ := hrel
    have hn : es.length < 64 := hdr.1
    have HDR : Hid (DR 16 v es x) := hdr
    clear hdr
    have HM : Hid ((rowOf (es.map fun d => dch d up)).setIfInBounds es.length (.int .u8 (dch (x % 16) up)) = rowOf ((es ++ [x % 16]).map fun d => dch d up)) := by
      have h := rowOf_set (es.map fun d => dch d up) (dch (x % 16) up) (by simpa using hn)
      rw [List.length_map] at h
      show _ = _
      rw [h, List.map_append]
      rfl
    have hsz := rowOf_size (es.map fun d => dch d up) (by simp; omega)
    obtain ⟨v2, hv2⟩ := rowOf_some (es.map fun d => dch d up) es.length (by simp; omega) hn
    generalize hds : rowOf (es.map fun d => dch d up) = R at *
    clear hds
    by_cases hz : x / 16 = 0
    · have hz' : (x / 16 == 0) = true := by simpa using hz
      have HE : Hid (es ++ [x % 16] = digR 16 64 v) := DR_end HDR.out hz
      clear hz HDR
      go_wp2_with (go_at_call 23; refine (digitChar_any _ _ _ (by omega) (by omega)).mono ?_; rintro e w' ⟨rfl, rfl⟩)
      rw [HM.out, ← rowOf_nil, show ((es.length : Int) + 1) = (((es ++ [x % 16]).map fun d => dch d up).length : Int) from by simp]
      have hn2 : ((es ++ [x % 16]).map fun d => dch d up).length ≤ 64 := by simp; omega
      have HC : Hid (digS 16 v up = ((es ++ [x % 16]).map fun d => dch d up).reverse) := by
        show _ = _
        rw [HE.out, digS, List.map_reverse]
      clear HE HM
      generalize (es ++ [x % 16]).map (fun d => dch d up) = cs at *
      clear hsz hn hv2
      have hcs := rowOf_size cs hn2
      go_loopw [11] (fun i wr => ∃ (k : Nat), k ≤ cs.length ∧ i = .int .i64 k
         ∧ wr = (w.alloc (.cells (rowOf cs) 53)).alloc (.cells (rowOf (cs.reverse.take k)) 53)) (fun i _ => cs.length - (intOf i).toNat)
      case atStart => exact ⟨0, by omega, rfl, rfl⟩
      case round =>
        obtain ⟨k, hk, rfl, rfl⟩ := hrel
        by_cases hlt : k < cs.length
        · have hl : (cs.reverse.take k).length = k := by simp; omega
          have hsz2 := rowOf_size (cs.reverse.take k) (by omega)
          have HS := rowOf_set (cs.reverse.take k) (cs.getD (cs.length - 1 - k) 0) (by omega)
          rw [hl, take_rev cs k hlt] at HS
          have hget := rowOf_get cs (cs.length - 1 - k) (by omega)
          generalize cs.getD (cs.length - 1 - k) 0 = c at *
          obtain ⟨v3, hv3⟩ := rowOf_some (cs.reverse.take k) k (by omega) (by omega)
          have HS' : Hid ((rowOf (cs.reverse.take k)).setIfInBounds k (.int .u8 c) = rowOf (cs.reverse.take (k + 1))) := HS
          clear HS
          go_wp2_with fail
          go_roundw
          case rel => exact ⟨k + 1, by omega, by go_num, by rw [HS'.out]⟩
          case measure => simp [intOf]; omega
        · have ek : cs.reverse.take k = cs.reverse := List.take_of_length_le (by simp; omega)
          rw [ek]
          clear ek
          have hsz2 := rowOf_size cs.reverse (by simp; omega)
          have hcv := run_convert_bytes_arg ((w.alloc (.cells (rowOf cs) 53)).alloc (.cells (rowOf cs.reverse) 53)) (P := Try.prog) 36 5 Try.underlying36 Try.underlying5 (w.heap.size + 1) 0 cs.length 64 cs.reverse (by simp)
            (fun i hi => rowOf_cell w _ _ i (by simpa using hi)) 9 Try.underlying9
          have hsl := fun wx => slice53 wx (w.heap.size + 1) cs.length hn2
          go_wp2_with fail
          go_ret
          refine ⟨?_, ((Grown.refl _).alloc _ _).alloc _ _⟩
          rw [HC.out]
          rfl
    · have hz' : (x / 16 == 0) = false := by simpa using hz
      have HD2 : Hid (DR 16 v (es ++ [x % 16]) (x / 16)) := DR_step (by omega) hx0 HDR.out hz
      go_wp2_with (go_at_call 23; refine (digitChar_any _ _ _ (by omega) (by omega)).mono ?_; rintro e w' ⟨rfl, rfl⟩)
      go_roundw
      case rel => exact ⟨es ++ [x % 16], x / 16, by simp, rfl, by omega, by omega, by rw [HM.out], HD2.out⟩
      case measure => simp [intOf]; omega
set_option maxHeartbeats 400000 in
theorem digits_bin (v : Int) (up : Bool) (w : World) (h0 : 0 ≤ v) (h1 : v ≤ 18446744073709551615) :
    Calls Try.prog 21 #[.int .u64 v, .bool true, .bool up] w fun e w' => e = .returned (.string (strOfNums (digS 2 v up))) ∧ Grown w w' := by
  go_enter Try.func21, Try.ntmps21
  go_wp2_with fail
  go_loopw [9, 0] (fun n a wr => ∃ (es : List Int) (x : Int), n = .int .i64 es.length ∧ a = .int .u64 x ∧ 0 ≤ x ∧ x ≤ 18446744073709551615
      ∧ wr = w.alloc (.cells (rowOf (es.map fun d => dch d up)) 53) ∧ DR 2 v es x) (fun _ a _ => (intOf a).toNat)
  case atStart => exact ⟨[], v, rfl, rfl, h0, h1, by rw [List.map_nil, rowOf_nil], DR_start _ _ (Int.lt_of_le_of_lt h1 (by decide))⟩
  case round =>
    obtain ⟨es, x, rfl, rfl, hx0, hx1, rfl, hdr⟩ := hrel
    have hn : es.length < 64 := hdr.1
    have HDR : Hid (DR 2 v es x) := hdr
    clear hdr
    have HM : Hid ((rowOf (es.map fun d => dch d up)).setIfInBounds es.length (.int .u8 (dch (x % 2) up)) = rowOf ((es ++ [x % 2]).map fun d => dch d up)) := by
      have h := rowOf_set (es.map fun d => dch d up) (dch (x % 2) up) (by simpa using hn)
      rw [List.length_map] at h
      show _ = _
      rw [h, List.map_append]
      rfl
    have hsz := rowOf_size (es.map fun d => dch d up) (by simp; omega)
    obtain ⟨v2, hv2⟩ := rowOf_some (es.map fun d => dch d up) es.length (by simp; omega) hn
    generalize hds : rowOf (es.map fun d => dch d up) = R at *
    clear hds
    by_cases hz : x / 2 = 0
    · have hz' : (x / 2 == 0) = true := by simpa using hz
      have HE : Hid (es ++ [x % 2] = digR 2 64 v) := DR_end HDR.out hz
      clear hz HDR
      go_wp2_with (go_at_call 23; refine (digitChar_any _ _ _ (by omega) (by omega)).mono ?_; rintro e w' ⟨rfl, rfl⟩)
      rw [HM.out, ← rowOf_nil, show ((es.length : Int) + 1) = (((es ++ [x % 2]).map fun d => dch d up).length : Int) from by simp]
      have hn2 : ((es ++ [x % 2]).map fun d => dch d up).length ≤ 64 := by simp; omega
      have HC : Hid (digS 2 v up = ((es ++ [x % 2]).map fun d => dch d up).reverse) := by
        show _ = _
        rw [HE.out, digS, List.map_reverse]
      clear HE HM
      generalize (es ++ [x % 2]).map (fun d => dch d up) = cs at *
      clear hsz hn hv2
      have hcs := rowOf_size cs hn2
      go_loopw [11] (fun i wr => ∃ (k : Nat), k ≤ cs.length ∧ i = .int .i64 k
         ∧ wr = (w.alloc (.cells (rowOf cs) 53)).alloc (.cells (rowOf (cs.reverse.take k)) 53)) (fun i _ => cs.length - (intOf i).toNat)
      case atStart => exact ⟨0, by omega, rfl, rfl⟩
      case round =>
        obtain ⟨k, hk, rfl, rfl⟩ := hrel
        by_cases hlt : k < cs.length
        · have hl : (cs.reverse.take k).length = k := by simp; omega
          have hsz2 := rowOf_size (cs.reverse.take k) (by omega)
          have HS := rowOf_set (cs.reverse.take k) (cs.getD (cs.length - 1 - k) 0) (by omega)
          rw [hl, take_rev cs k hlt] at HS
          have hget := rowOf_get cs (cs.length - 1 - k) (by omega)
          generalize cs.getD (cs.length - 1 - k) 0 = c at *
          obtain ⟨v3, hv3⟩ := rowOf_some (cs.reverse.take k) k (by omega) (by omega)
          have HS' : Hid ((rowOf (cs.reverse.take k)).setIfInBounds k (.int .u8 c) = rowOf (cs.reverse.take (k + 1))) := HS
          clear HS
          go_wp2_with fail
          go_roundw
          case rel => exact ⟨k + 1, by omega, by go_num, by rw [HS'.out]⟩
          case measure => simp [intOf]; omega
        · have ek : cs.reverse.take k = cs.reverse := List.take_of_length_le (by simp; omega)
          rw [ek]
          clear ek
          have hsz2 := rowOf_size cs.reverse (by simp; omega)
          have hcv := run_convert_bytes_arg ((w.alloc (.cells (rowOf cs) 53)).alloc (.cells (rowOf cs.reverse) 53)) (P := Try.prog) 36 5 Try.underlying36 Try.underlying5 (w.heap.size + 1) 0 cs.length 64 cs.reverse (by simp)
            (fun i hi => rowOf_cell w _ _ i (by simpa using hi)) 9 Try.underlying9
          have hsl := fun wx => slice53 wx (w.heap.size + 1) cs.length hn2
          go_wp2_with fail
          go_ret
          refine ⟨?_, ((Grown.refl _).alloc _ _).alloc _ _⟩
          rw [HC.out]
          rfl
    · have hz' : (x / 2 == 0) = false := by simpa using hz
      have HD2 : Hid (DR 2 v (es ++ [x % 2]) (x / 2)) := DR_step (by omega) hx0 HDR.out hz
      go_wp2_with (go_at_call 23; refine (digitChar_any _ _ _ (by omega) (by omega)).mono ?_; rintro e w' ⟨rfl, rfl⟩)
      go_roundw
      case rel => exact ⟨es ++ [x % 2], x / 2, by simp, rfl, by omega, by omega, by rw [HM.out], HD2.out⟩
      case measure => simp [intOf]; omega

end Go.Proofs.Qxb6603772a.Wk
