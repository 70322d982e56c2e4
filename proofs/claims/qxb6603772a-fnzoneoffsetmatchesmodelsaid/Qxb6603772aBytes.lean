/- A string's bytes as a list of numbers. -/
import Derived.PlainAid
import Derived.ChangeKeysEq
namespace Go.Proofs.Qxb6603772a.Bs
open Go.PlainAid

def bl (s : ByteArray) : List Int := s.data.toList.map fun c => (c.toNat : Int)

theorem bl_length (s : ByteArray) : (bl s).length = s.size := by simp [bl]

theorem bl_get (s : ByteArray) (k : Nat) (h : k < (bl s).length) : (bl s)[k] = bt s k := by
  have h' : k < s.size := by rw [bl_length] at h; exact h
  unfold bt
  rw [dif_pos h']
  simp [bl]
  rfl

theorem bl_getD (s : ByteArray) (k : Nat) : (bl s).getD k 0 = bt s k := by
  by_cases h : k < s.size
  · rw [List.getD_eq_getElem?_getD, List.getElem?_eq_getElem (by rw [bl_length]; exact h), bl_get]; rfl
  · rw [List.getD_eq_getElem?_getD, List.getElem?_eq_none (by rw [bl_length]; omega), bt_end s (by omega)]; rfl

theorem bl_drop (s : ByteArray) (k : Nat) (h : k < s.size) : (bl s).drop k = bt s k :: (bl s).drop (k + 1) := by
  rw [← bl_get s k (by rw [bl_length]; exact h)]
  exact List.drop_eq_getElem_cons (by rw [bl_length]; exact h)

theorem bl_drop_end (s : ByteArray) (k : Nat) (h : s.size ≤ k) : (bl s).drop k = [] :=
  List.drop_eq_nil_of_le (by rw [bl_length]; exact h)

theorem bl_extract (s : ByteArray) (i j : Nat) : bl (s.extract i j) = ((bl s).drop i).take (j - i) := by
  unfold bl
  rw [ByteArray.data_extract, Array.toList_extract, List.extract_eq_take_drop, List.map_take, List.map_drop]

theorem bl_suffix (s : ByteArray) (i : Nat) : bl (s.extract i s.size) = (bl s).drop i := by
  rw [bl_extract]
  exact List.take_of_length_le (by rw [List.length_drop, bl_length]; omega)

theorem isEmpty_dec (s : ByteArray) : s.toList.isEmpty = decide (s.size = 0) := by
  have h : s.toList.length = s.size := by rw [ByteArray.toList_eq]; exact Array.length_toList
  by_cases e : s.size = 0
  · rw [decide_eq_true e, List.isEmpty_iff]
    exact List.length_eq_zero_iff.1 (h.trans e)
  · rw [decide_eq_false e, List.isEmpty_eq_false_iff]
    intro h2
    rw [h2] at h
    exact e h.symm

end Go.Proofs.Qxb6603772a.Bs
