import Derived.Test.Qxb6603957aSmall
namespace Go.Proofs.Qxb6603957a
open Go.RowKit
set_option linter.unusedVariables false

def bc (N : Nat) (f : Nat → Bool) : List Value := (List.range N).map (boolsF f)
theorem bc_length (N : Nat) (f : Nat → Bool) : (bc N f).length = N := by simp [bc]
theorem bc_get (N : Nat) (f : Nat → Bool) (j : Nat) (h : j < N) : (bc N f)[j]? = some (.bool (f j)) := by simp [bc, h, boolsF]
theorem bc_put (N : Nat) (f : Nat → Bool) (i : Nat) (v : Bool) : (bc N f).set i (.bool v) = bc N (put f i v) := by
  apply List.ext_getElem?
  intro k
  rw [List.getElem?_set]
  by_cases hk : k < N
  · by_cases hik : i = k
    · subst hik
      rw [if_pos rfl, if_pos (by rw [bc_length]; exact hk), bc_get _ _ _ hk, put_same]
    · rw [if_neg hik, bc_get _ _ _ hk, bc_get _ _ _ hk, put_other _ _ (Ne.symm hik)]
  · have e1 : (bc N f)[k]? = none := List.getElem?_eq_none (by rw [bc_length]; omega)
    have e2 : (bc N (put f i v))[k]? = none := List.getElem?_eq_none (by rw [bc_length]; omega)
    rw [e1, e2]
    by_cases hik : i = k
    · rw [if_pos hik, if_neg (by rw [bc_length]; omega)]
    · rw [if_neg hik]
theorem bc_snoc (N : Nat) (f : Nat → Bool) : bc (N + 1) f = bc N f ++ [.bool (f N)] := by
  simp [bc, List.range_succ, boolsF]

/-- 'meets' when k marks of the other text have been read. -/
def Meets (O : Nat → Bool) (wr : World) (B g cap k : Nat) : Prop :=
  wr.ownsRow B 4 1 (.slice (some ⟨g, 0, none⟩) (fc O k + 1) cap) (fc O k + 1) (bc (fc O k + 1) (hitTo O k))

theorem Meets.start (O : Nat → Bool) (w : World) : Meets O (w.alloc (.cells #[.bool false] 4)) w.heap.size w.heap.size 1 0 :=
  World.ownsRow_lit w #[.bool false] 1 (Nat.le_refl _) (by unfold maxLen; omega) rfl
theorem Meets.cell {O : Nat → Bool} {wr : World} {B g cap k : Nat} (h : Meets O wr B g cap k) (j : Nat) (hj : j ≤ fc O k) : wr.cell? ⟨g, j, none⟩ = some (.bool (hitTo O k j)) := by
  have h1 : wr.cell? ⟨g, j, none⟩ = (bc (fc O k + 1) (hitTo O k))[j]? := World.ownsRow.cellAt h j (by omega)
  rw [h1, bc_get _ _ _ (by omega)]
theorem Meets.free {O : Nat → Bool} {wr : World} {B g cap k : Nat} (h : Meets O wr B g cap k) (j : Nat) : wr.frozen? ⟨g, j, none⟩ = false := World.ownsRow.frozenAt h j
theorem Meets.block {O : Nat → Bool} {wr : World} {B g cap k : Nat} (h : Meets O wr B g cap k) : B ≤ g ∧ g < wr.heap.size := World.ownsRow.lt h g rfl
theorem Meets.yes {O : Nat → Bool} {wr : World} {B g cap k : Nat} (h : Meets O wr B g cap k) (hO : O k = true) : Meets O (wr.setCell ⟨g, fc O k, none⟩ (.bool true)) B g cap (k + 1) := by
  have := (World.ownsRow.stored h (fc O k) (.bool true)).1
  unfold Meets
  rw [bc_put, ← hitTo_yes hO] at this
  rw [fc_yes hO]
  exact this
theorem Meets.no {O : Nat → Bool} {w' : World} {B k : Nat} {v : Value} (hO : O k = false) (h : w'.ownsRow B 4 1 v (fc O k + 1 + 1) (bc (fc O k + 1) (hitTo O k) ++ [.bool false])) :
    ∃ g cap, v = .slice (some ⟨g, 0, none⟩) (fc O (k + 1) + 1) cap ∧ Meets O w' B g cap (k + 1) := by
  have e : bc (fc O k + 1) (hitTo O k) ++ [Value.bool false] = bc (fc O k + 1 + 1) (hitTo O k) := by rw [bc_snoc (fc O k + 1), hitTo_past O k (fc O k + 1) (by omega)]
  rw [e] at h
  have h0 := h
  rcases h.2 with ⟨_, hn⟩ | ⟨g, cap, cur, rfl, _⟩
  · omega
  · refine ⟨g, cap, by rw [fc_no hO], ?_⟩
    unfold Meets
    rw [fc_no hO, hitTo_no hO]
    exact h0

end Go.Proofs.Qxb6603957a
