import Derived.Test.Qxb6605188aDigit
namespace Go.Proofs.Qxb6605188a
open Go.RowKit
set_option linter.unusedVariables false

theorem byteI_append (a b : ByteArray) (i : Nat) : byteI (a ++ b) i = if i < a.size then byteI a i else byteI b (i - a.size) := by
  unfold byteI
  have e : (a ++ b).data.toList = a.data.toList ++ b.data.toList := by simp
  rw [e, List.getD_eq_getElem?_getD, List.getD_eq_getElem?_getD, List.getD_eq_getElem?_getD, List.getElem?_append]
  have es : a.data.toList.length = a.size := by simp
  rw [es]
  split <;> rfl

theorem wrap_byte (x : Int) (h0 : 0 ≤ x) (h1 : x < 256) : (wrap64 (wrap64 (wrap64 x + 256) - 48)).tmod 256 = (x - 48) % 256 := by
  rw [IntWalk.wrap64_in x (by omega), IntWalk.wrap64_in (x + 256) (by omega), IntWalk.wrap64_in (x + 256 - 48) (by omega), Int.tmod_eq_emod_of_nonneg (by omega)]
  omega

theorem plain_in (a b : ByteArray) (p : Int) (h1 : -(a.size : Int) ≤ p) (h2 : p < (b.size : Int)) :
    digF a b p = (byteI (a ++ b) ((a.size : Int) + p).toNat - 48) % 256 := by
  rw [byteI_append]
  unfold digF
  by_cases hp : p < 0
  · rw [if_pos hp, if_pos (by omega), if_pos (by omega)]
  · rw [if_neg hp, if_pos h2, if_neg (by omega)]
    congr 3
    omega

theorem plain_out (a b : ByteArray) (p : Int) (h : ¬ (-(a.size : Int) ≤ p ∧ p < (b.size : Int))) : digF a b p = 0 := by
  unfold digF
  by_cases hp : p < 0
  · rw [if_pos hp, if_neg (by omega)]
  · rw [if_neg hp, if_neg (by omega)]

end Go.Proofs.Qxb6605188a
