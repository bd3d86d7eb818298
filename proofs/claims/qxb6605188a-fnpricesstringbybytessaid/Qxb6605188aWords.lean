import Derived.Test.Qxb6605188aPrices
namespace Go.Proofs.Qxb6605188a
open Go.RowKit
set_option linter.unusedVariables false

/-- The law's own writing: the first j bytes, a blank before every byte whose offset is a positive multiple of 8. -/
def wbody (l : List UInt8) : Nat → List UInt8
  | 0 => []
  | j + 1 => wbody l j ++ ((if 0 < j ∧ j % 8 = 0 then [32] else []) ++ [l.getD j 0])

theorem take_cons_drop (l : List UInt8) (j i : Nat) (h : j < l.length) : (l.drop j).take (i + 1) = l.getD j 0 :: (l.drop (j + 1)).take i := by
  rw [List.drop_eq_getElem_cons h, List.take_succ_cons, List.getD_eq_getElem?_getD, List.getElem?_eq_getElem h]
  rfl
theorem take_snoc_drop (l : List UInt8) (j i : Nat) (h : j + i < l.length) : (l.drop j).take (i + 1) = (l.drop j).take i ++ [l.getD (j + i) 0] := by
  rw [List.take_succ_eq_append_getElem (by simp; omega), List.getD_eq_getElem?_getD, List.getElem?_eq_getElem h]
  simp

theorem wbody_run (l : List UInt8) (k : Nat) : ∀ i, i ≤ 7 → 8 * k + 1 + i ≤ l.length → wbody l (8 * k + 1 + i) = wbody l (8 * k + 1) ++ (l.drop (8 * k + 1)).take i
  | 0, _, _ => by simp
  | i + 1, h, hl => by
    have ih := wbody_run l k i (by omega) (by omega)
    show wbody l (8 * k + 1 + i) ++ ((if 0 < 8 * k + 1 + i ∧ (8 * k + 1 + i) % 8 = 0 then [32] else []) ++ [l.getD (8 * k + 1 + i) 0]) = _
    rw [ih, if_neg (by omega), take_snoc_drop l (8 * k + 1) i (by omega)]
    simp

theorem wbody_eq (l : List UInt8) : ∀ k, 8 * k ≤ l.length → wbody l (8 * k) = pbody l k
  | 0, _ => rfl
  | k + 1, h => by
    have ih := wbody_eq l k (by omega)
    have e1 := wbody_run l k 7 (by omega) (by omega)
    have e0 : 8 * (k + 1) = 8 * k + 1 + 7 := by omega
    rw [e0, e1]
    show wbody l (8 * k) ++ ((if 0 < 8 * k ∧ (8 * k) % 8 = 0 then [32] else []) ++ [l.getD (8 * k) 0]) ++ (l.drop (8 * k + 1)).take 7 = pbody l k ++ ((if k = 0 then [] else [32]) ++ (l.drop (k * 8)).take 8)
    rw [ih, show k * 8 = 8 * k from by omega, take_cons_drop l (8 * k) 7 (by omega)]
    by_cases hk : k = 0
    · rw [if_pos hk, if_neg (by omega)]
      simp
    · rw [if_neg hk, if_pos (by omega)]
      simp

theorem wcells_blank {l : List UInt8} {j : Nat} {d : Int} (h : 0 < j ∧ j % 8 = 0) (hd : d = ((l.getD j 0).toNat : Int)) : cellsB (91 :: wbody l (j + 1)) = (cellsB (91 :: wbody l j) ++ [.int .u8 32]) ++ [.int .u8 d] := by
  show cellsB (91 :: (wbody l j ++ ((if 0 < j ∧ j % 8 = 0 then [32] else []) ++ [l.getD j 0]))) = _
  rw [if_pos h, hd]
  simp [cellsB]
theorem wcells_none {l : List UInt8} {j : Nat} {d : Int} (h : ¬ (0 < j ∧ j % 8 = 0)) (hd : d = ((l.getD j 0).toNat : Int)) : cellsB (91 :: wbody l (j + 1)) = cellsB (91 :: wbody l j) ++ [.int .u8 d] := by
  show cellsB (91 :: (wbody l j ++ ((if 0 < j ∧ j % 8 = 0 then [32] else []) ++ [l.getD j 0]))) = _
  rw [if_neg h, hd]
  simp [cellsB]
theorem wcells_end (l : List UInt8) (n : Nat) : cellsB (91 :: wbody l n ++ [93]) = cellsB (91 :: wbody l n) ++ [.int .u8 93] := by
  rw [cellsB_append]
  rfl

end Go.Proofs.Qxb6605188a
