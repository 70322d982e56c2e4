/- Texts put together: their bytes. -/
import Derived.Test.Qxb6603772aBytes
import Derived.Test.Qxb6603772aPlain
import Derived.Laws.BytesArg
namespace Go.Proofs.Qxb6603772a.Bs
open Go.PlainAid

theorem bl_append (a b : ByteArray) : bl (a ++ b) = bl a ++ bl b := by
  unfold bl
  rw [ByteArray.data_append, Array.toList_append, List.map_append]

theorem bl_nums (xs : List Int) (h : ∀ c ∈ xs, 0 ≤ c ∧ c ≤ 255) : bl (strOfNums xs) = xs := by
  unfold bl
  rw [strOfNums_data, List.map_map]
  have : ∀ c ∈ xs, ((fun c : UInt8 => (c.toNat : Int)) ∘ fun n : Int => UInt8.ofNat n.toNat) c = c := by
    intro c hc
    have := h c hc
    simp only [Function.comp]
    rw [UInt8.toNat_ofNat']
    omega
  rw [List.map_congr_left this, List.map_id']

theorem radixP_text (p : Int) (l : List Int) : Pl.radixP (48 :: p :: l) =
    if p = 120 ∨ p = 88 then Pl.fin (Pl.rx 16 Pl.L16 false 0 l) else if p = 98 ∨ p = 66 then Pl.fin (Pl.rx 2 Pl.L2 false 0 l) else (0, false, false) := by
  unfold Pl.radixP
  rw [if_neg (by simp)]
  simp

end Go.Proofs.Qxb6603772a.Bs
