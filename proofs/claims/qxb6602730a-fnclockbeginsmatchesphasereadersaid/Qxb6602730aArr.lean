import Derived.WalkKit
import Derived.WalkSpells
import Derived.WalkLawsBesides
namespace Go.Proofs.Qxb6602730a
open Go.RowKit
set_option linter.unusedVariables false

theorem ret_int {k : IntKind} {a b : Int} (h : a = b) : Ending.returned (.int k a) = .returned (.int k b) := by rw [h]
theorem ret_bool {a b : Bool} (h : a = b) : Ending.returned (.bool a) = .returned (.bool b) := by rw [h]

/-! ### A whole block that the call itself made: its cells written out -/
def Arr (w : World) (g : Nat) (T : TypeId) (l : List Value) : Prop := w.heap[g]? = some (.cells l.toArray T (0, 0))

section
variable {w w' : World} {g : Nat} {T : TypeId} {l : List Value}

theorem Arr.lt (h : Arr w g T l) : g < w.heap.size := (Array.getElem?_eq_some_iff.1 h).1
theorem Arr.cell (h : Arr w g T l) (i : Nat) (v : Value) (hi : l[i]? = some v) : w.cell? ⟨g, i, none⟩ = some v := by
  unfold Arr at h
  simp [World.cell?, h, hi]
theorem Arr.free (h : Arr w g T l) (i : Nat) : w.frozen? ⟨g, i, none⟩ = false := by
  unfold Arr at h
  simp [World.frozen?, h]
theorem Arr.set (h : Arr w g T l) (i : Nat) (v : Value) : Arr (w.setCell ⟨g, i, none⟩ v) g T (l.set i v) := by
  have hlt := h.lt
  unfold Arr at h ⊢
  simp only [World.setCell, Array.getElem?_modify, if_pos, h, Option.map_some]
  simp
theorem Arr.other (h : Arr w g T l) {a : Addr} (ha : g ≠ a.block) (v : Value) : Arr (w.setCell a v) g T l := by
  unfold Arr at h ⊢
  rw [Below.heap_setCell _ _ _ _ ha]
  exact h
theorem Arr.kept {row : Option Nat} (h : Arr w g T l) (hg : w.grownBy w' row) (hne : some g ≠ row) : Arr w' g T l := by
  have hlt := h.lt
  unfold Arr at h ⊢
  rw [hg.block g hlt hne]
  exact h
theorem Arr.below {B : Nat} (h : Arr w g T l) (hb : Below B w w') (hB : g < B) : Arr w' g T l := by
  unfold Arr at h ⊢
  rw [hb.block g hB]
  exact h
theorem Arr.alloc (h : Arr w g T l) (o : Obj) : Arr (w.alloc o) g T l := by
  have hlt := h.lt
  unfold Arr at h ⊢
  rw [Below.heap_alloc _ _ _ hlt]
  exact h
theorem Arr.drewN (h : Arr w g T l) (n : Nat) : Arr (w.drewN n) g T l := h
theorem Arr.of_own {base n : Nat} {xs : List Value} (h : w.ownsRow base T 1 (.slice (some ⟨g, 0, none⟩) n n) n xs) : Arr w g T xs ∧ base ≤ g := by
  rcases h.2 with ⟨hv, _⟩ | ⟨g', cap, cur, hv, hb, hg, _, _, hs, ht⟩
  · cases hv
  · simp only [Value.slice.injEq, Option.some.injEq, Addr.mk.injEq] at hv
    obtain ⟨⟨rfl, _, _⟩, _, rfl⟩ := hv
    refine ⟨?_, hb⟩
    unfold Arr
    rw [hg]
    have : cur.toList = xs := by
      rw [← ht, List.take_of_length_le]
      simp at hs ⊢
      omega
    rw [← this]
end

/-- Writes to one row alone. -/
theorem grown_trans {a b c : World} {row : Option Nat} (h : a.grownBy b row) (k : b.grownBy c row) : a.grownBy c row :=
  ⟨k.os.trans h.os, k.tape.trans h.tape, k.output.trans h.output, Nat.le_trans h.size k.size, fun i hi hn => (k.block i (Nat.lt_of_lt_of_le hi h.size) hn).trans (h.block i hi hn)⟩
theorem grown_setCell (w : World) (g i : Nat) (v : Value) : w.grownBy (w.setCell ⟨g, i, none⟩ v) (some g) :=
  ⟨rfl, rfl, rfl, by simp, fun k _ hk => Below.heap_setCell _ _ _ _ (fun e => hk (by rw [e]))⟩
theorem grown_drewN (w : World) (n : Nat) (row : Option Nat) : w.grownBy (w.drewN n) row := ⟨rfl, rfl, rfl, Nat.le_refl _, fun _ _ _ => rfl⟩

/-- Numbers as cells. -/
def ints (zs : List Int) : List Value := zs.map (Value.int .i64)
theorem ints_get (zs : List Int) (i : Nat) (h : i < zs.length) : (ints zs)[i]? = some (.int .i64 (zs.getD i 0)) := by
  unfold ints
  rw [List.getElem?_map, List.getElem?_eq_getElem h, List.getD_eq_getElem?_getD, List.getElem?_eq_getElem h]
  rfl
theorem ints_set (zs : List Int) (i : Nat) (x : Int) : (ints zs).set i (.int .i64 x) = ints (zs.set i x) := by
  unfold ints
  rw [List.map_set]

/-- The first k through f, the rest as it was. -/
def upd (f : Int → Int) (zs : List Int) (k : Nat) : List Int := (zs.take k).map f ++ zs.drop k
theorem upd_zero (f : Int → Int) (zs : List Int) : upd f zs 0 = zs := by simp [upd]
theorem upd_full (f : Int → Int) (zs : List Int) (k : Nat) (h : zs.length ≤ k) : upd f zs k = zs.map f := by
  simp [upd, List.take_of_length_le h, List.drop_eq_nil_of_le h]
theorem upd_length (f : Int → Int) (zs : List Int) (k : Nat) : (upd f zs k).length = zs.length := by
  simp [upd]
  omega
theorem upd_get (f : Int → Int) (zs : List Int) (k : Nat) : (upd f zs k).getD k 0 = zs.getD k 0 := by
  by_cases h : k ≤ zs.length
  · simp [upd, List.getD_eq_getElem?_getD, List.getElem?_append, Nat.min_eq_left h]
  · simp [upd, List.getD_eq_getElem?_getD]
    rw [List.getElem?_eq_none (by simp; omega), List.getElem?_eq_none (by omega)]
theorem upd_succ (f : Int → Int) (zs : List Int) (k : Nat) (h : k < zs.length) : upd f zs (k + 1) = (upd f zs k).set k (f (zs.getD k 0)) := by
  have e : ∀ x, (zs.drop k).set 0 x = x :: zs.drop (k + 1) := by
    intro x
    rw [List.drop_eq_getElem_cons h]
    rfl
  unfold upd
  rw [List.take_succ_eq_append_getElem h, List.map_append, List.append_assoc, List.set_append_right _ _ (by simp; omega)]
  simp [List.getD_eq_getElem?_getD, List.getElem?_eq_getElem h, Nat.min_eq_left (Nat.le_of_lt h), e]
theorem upd_keep (f : Int → Int) (zs : List Int) (k : Nat) (h : k < zs.length) (e : f (zs.getD k 0) = zs.getD k 0) : upd f zs (k + 1) = upd f zs k := by
  rw [upd_succ f zs k h, e]
  apply List.ext_getElem?
  intro i
  rw [List.getElem?_set]
  split
  · rename_i hik
    subst hik
    rw [if_pos (by rw [upd_length]; exact h)]
    have := upd_get f zs k
    rw [List.getD_eq_getElem?_getD, List.getElem?_eq_getElem (by rw [upd_length]; exact h)] at this
    rw [List.getElem?_eq_getElem (by rw [upd_length]; exact h), ← this]
    rfl
  · rfl

/-- The first k copied, the rest nought. -/
def cop (zs : List Int) (n k : Nat) : List Int := zs.take k ++ List.replicate (n - k) 0
theorem cop_zero (zs : List Int) (n : Nat) : cop zs n 0 = List.replicate n 0 := by simp [cop]
theorem cop_full (zs : List Int) (n : Nat) : cop zs n n = zs.take n := by simp [cop]
theorem cop_length (zs : List Int) (n k : Nat) (hk : k ≤ n) (h : n ≤ zs.length) : (cop zs n k).length = n := by
  simp [cop]
  omega
theorem cop_succ (zs : List Int) (n k : Nat) (hk : k < n) (h : n ≤ zs.length) : cop zs n (k + 1) = (cop zs n k).set k (zs.getD k 0) := by
  have hz : k < zs.length := by omega
  unfold cop
  obtain ⟨m, hm⟩ : ∃ m, n - k = m + 1 := ⟨n - k - 1, by omega⟩
  rw [List.take_succ_eq_append_getElem hz, List.append_assoc, List.set_append_right _ _ (by simp; omega), hm, show n - (k + 1) = m from by omega, List.replicate_succ]
  simp [List.getD_eq_getElem?_getD, List.getElem?_eq_getElem hz, Nat.min_eq_left (Nat.le_of_lt hz)]

end Go.Proofs.Qxb6602730a
