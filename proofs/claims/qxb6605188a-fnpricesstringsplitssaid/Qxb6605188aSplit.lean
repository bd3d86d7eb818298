import Derived.Test.Qxb6605188aPrices
namespace Go.Proofs.Qxb6605188a
open Go.RowKit
set_option linter.unusedVariables false

theorem pbody_length (l : List UInt8) : ∀ k, k * 8 ≤ l.length → (pbody l k).length = 9 * k - 1
  | 0, _ => rfl
  | k + 1, h => by
    have ih := pbody_length l k (by omega)
    show (pbody l k ++ ((if k = 0 then [] else [32]) ++ (l.drop (k * 8)).take 8)).length = _
    by_cases hk : k = 0
    · rw [if_pos hk, List.length_append, ih, List.length_append, List.length_take, List.length_drop]
      simp only [List.length_nil]
      omega
    · rw [if_neg hk, List.length_append, ih, List.length_append, List.length_take, List.length_drop]
      simp only [List.length_cons, List.length_nil]
      omega

theorem pbody_left (l m : List UInt8) : ∀ k, k * 8 ≤ l.length → pbody (l ++ m) k = pbody l k
  | 0, _ => rfl
  | k + 1, h => by
    have ih := pbody_left l m k (by omega)
    show pbody (l ++ m) k ++ ((if k = 0 then [] else [32]) ++ ((l ++ m).drop (k * 8)).take 8) = pbody l k ++ ((if k = 0 then [] else [32]) ++ (l.drop (k * 8)).take 8)
    rw [ih, List.drop_append_of_le_length (by omega), List.take_append_of_le_length (by rw [List.length_drop]; omega)]

theorem pbody_split (l m : List UInt8) (n : Nat) (hn : l.length = n * 8) : ∀ k, pbody (l ++ m) (n + k) = pbody l n ++ ((if n = 0 ∨ k = 0 then [] else [32]) ++ pbody m k)
  | 0 => by
    rw [if_pos (.inr rfl), Nat.add_zero, pbody_left l m n (by omega)]
    simp [pbody]
  | k + 1 => by
    have ih := pbody_split l m n hn k
    show pbody (l ++ m) (n + k) ++ ((if n + k = 0 then [] else [32]) ++ ((l ++ m).drop ((n + k) * 8)).take 8) = pbody l n ++ ((if n = 0 ∨ k + 1 = 0 then [] else [32]) ++ (pbody m k ++ ((if k = 0 then [] else [32]) ++ (m.drop (k * 8)).take 8)))
    have ed : (l ++ m).drop ((n + k) * 8) = m.drop (k * 8) := by
      rw [show (n + k) * 8 = l.length + k * 8 from by rw [hn]; omega, List.drop_append]
      simp
    rw [ih, ed]
    by_cases h1 : n = 0
    · subst h1
      have hl : l = [] := List.eq_nil_of_length_eq_zero (by omega)
      subst hl
      by_cases h2 : k = 0
      · subst h2
        simp [pbody]
      · simp [h2, pbody]
    · by_cases h2 : k = 0
      · subst h2
        simp [h1, pbody]
      · simp [h1, h2]

theorem pstr_len (l : List UInt8) : (pstr l).length = 9 * (l.length / 8) - 1 + 2 := by
  unfold pstr
  rw [List.cons_append, List.length_cons, List.length_append, pbody_length l _ (by omega)]
  simp

/-- The inside of a bracketed text. -/
theorem inner_list {s : ByteArray} {b : List UInt8} (h : s.data.toList = 91 :: b ++ [93]) : (s.extract 1 (s.size - 1)).data.toList = b := by
  have hs : s.size = b.length + 2 := by
    have := congrArg List.length h
    simpa using this
  rw [ByteArray.data_extract, Array.toList_extract, List.extract_eq_take_drop, h, hs]
  simp

end Go.Proofs.Qxb6605188a
