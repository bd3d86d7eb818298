import Derived.WalkKit
import Derived.WalkSpells
import Derived.WalkLawsBesides
namespace Go.Proofs.Qxb6603957a
open Go.RowKit
set_option linter.unusedVariables false

theorem ret_int {k : IntKind} {a b : Int} (h : a = b) : Ending.returned (.int k a) = .returned (.int k b) := by rw [h]
theorem ret_bool {a b : Bool} (h : a = b) : Ending.returned (.bool a) = .returned (.bool b) := by rw [h]

/-! ### A whole block that the call itself made: its cells written out -/
def Arr (w : World) (g : Nat) (T : TypeId) (l : List Value) : Prop := w.heap[g]? = some (.cells l.toArray T (0, 0))

section
variable {w w' : World} {g : Nat} {T : TypeId} {l : List Value}

theorem Arr.lt (h : Arr w g T l) : g < w.heap.size := (Array.getElem?_eq_some_iff.1 h).1
theorem Arr.cell (h : Arr w g T l) (i : Nat) (v : Value) (hi : l[i]? = some v) : w.cell? ⟨g, i, none⟩ = some v := by
  unfold Arr at h
  simp [World.cell?, h, hi]
theorem Arr.free (h : Arr w g T l) (i : Nat) : w.frozen? ⟨g, i, none⟩ = false := by
  unfold Arr at h
  simp [World.frozen?, h]
theorem Arr.set (h : Arr w g T l) (i : Nat) (v : Value) : Arr (w.setCell ⟨g, i, none⟩ v) g T (l.set i v) := by
  have hlt := h.lt
  unfold Arr at h ⊢
  simp only [World.setCell, Array.getElem?_modify, if_pos, h, Option.map_some]
  simp
theorem Arr.other (h : Arr w g T l) {a : Addr} (ha : g ≠ a.block) (v : Value) : Arr (w.setCell a v) g T l := by
  unfold Arr at h ⊢
  rw [Below.heap_setCell _ _ _ _ ha]
  exact h
theorem Arr.kept {row : Option Nat} (h : Arr w g T l) (hg : w.grownBy w' row) (hne : some g ≠ row) : Arr w' g T l := by
  have hlt := h.lt
  unfold Arr at h ⊢
  rw [hg.block g hlt hne]
  exact h
theorem Arr.below {B : Nat} (h : Arr w g T l) (hb : Below B w w') (hB : g < B) : Arr w' g T l := by
  unfold Arr at h ⊢
  rw [hb.block g hB]
  exact h
theorem Arr.alloc (h : Arr w g T l) (o : Obj) : Arr (w.alloc o) g T l := by
  have hlt := h.lt
  unfold Arr at h ⊢
  rw [Below.heap_alloc _ _ _ hlt]
  exact h
theorem Arr.drewN (h : Arr w g T l) (n : Nat) : Arr (w.drewN n) g T l := h
theorem Arr.of_own {base n : Nat} {xs : List Value} (h : w.ownsRow base T 1 (.slice (some ⟨g, 0, none⟩) n n) n xs) : Arr w g T xs ∧ base ≤ g := by
  rcases h.2 with ⟨hv, _⟩ | ⟨g', cap, cur, hv, hb, hg, _, _, hs, ht⟩
  · cases hv
  · simp only [Value.slice.injEq, Option.some.injEq, Addr.mk.injEq] at hv
    obtain ⟨⟨rfl, _, _⟩, _, rfl⟩ := hv
    refine ⟨?_, hb⟩
    unfold Arr
    rw [hg]
    have : cur.toList = xs := by
      rw [← ht, List.take_of_length_le]
      simp at hs ⊢
      omega
    rw [← this]
end

/-- Writes to one row alone. -/
theorem grown_trans {a b c : World} {row : Option Nat} (h : a.grownBy b row) (k : b.grownBy c row) : a.grownBy c row :=
  ⟨k.os.trans h.os, k.tape.trans h.tape, k.output.trans h.output, Nat.le_trans h.size k.size, fun i hi hn => (k.block i (Nat.lt_of_lt_of_le hi h.size) hn).trans (h.block i hi hn)⟩
theorem grown_setCell (w : World) (g i : Nat) (v : Value) : w.grownBy (w.setCell ⟨g, i, none⟩ v) (some g) :=
  ⟨rfl, rfl, rfl, by simp, fun k _ hk => Below.heap_setCell _ _ _ _ (fun e => hk (by rw [e]))⟩
theorem grown_drewN (w : World) (n : Nat) (row : Option Nat) : w.grownBy (w.drewN n) row := ⟨rfl, rfl, rfl, Nat.le_refl _, fun _ _ _ => rfl⟩


/-! ### A row of n cells, told by a function -/
def Row (w : World) (g : Nat) (T : TypeId) (n : Nat) (f : Nat → Value) : Prop := Arr w g T ((List.range n).map f)

section
variable {w w' : World} {g : Nat} {T : TypeId} {n : Nat} {f : Nat → Value}
theorem Row.lt (h : Row w g T n f) : g < w.heap.size := Arr.lt h
theorem Row.cell (h : Row w g T n f) (i : Nat) (hi : i < n) : w.cell? ⟨g, i, none⟩ = some (f i) := Arr.cell h i _ (by simp [hi])
theorem Row.free (h : Row w g T n f) (i : Nat) : w.frozen? ⟨g, i, none⟩ = false := Arr.free h i
theorem Row.congr {f' : Nat → Value} (h : Row w g T n f) (e : ∀ i, i < n → f i = f' i) : Row w g T n f' := by
  unfold Row at h ⊢
  rwa [List.map_congr_left (fun i hi => e i (List.mem_range.1 hi))] at h
theorem Row.set (h : Row w g T n f) (i : Nat) (v : Value) : Row (w.setCell ⟨g, i, none⟩ v) g T n (fun j => if j = i then v else f j) := by
  have := Arr.set h i v
  unfold Row
  have e : ((List.range n).map f).set i v = (List.range n).map (fun j => if j = i then v else f j) := by
    apply List.ext_getElem?
    intro k
    rw [List.getElem?_set]
    by_cases hk : k < n
    · by_cases hik : i = k
      · subst hik
        simp [hk]
      · simp [hk, hik, Ne.symm hik]
    · by_cases hik : i = k
      · subst hik
        simp [hk]
      · simp [hk, hik]
  rwa [e] at this
theorem Row.other (h : Row w g T n f) {a : Addr} (ha : g ≠ a.block) (v : Value) : Row (w.setCell a v) g T n f := Arr.other h ha v
theorem Row.kept {row : Option Nat} (h : Row w g T n f) (hg : w.grownBy w' row) (hne : some g ≠ row) : Row w' g T n f := Arr.kept h hg hne
theorem Row.below {B : Nat} (h : Row w g T n f) (hb : Below B w w') (hB : g < B) : Row w' g T n f := Arr.below h hb hB
theorem Row.alloc (h : Row w g T n f) (o : Obj) : Row (w.alloc o) g T n f := Arr.alloc h o
theorem Row.drewN (h : Row w g T n f) (k : Nat) : Row (w.drewN k) g T n f := h
end

/-- A row of the call's own, out of 'make([]T, n)'. -/
theorem Row.of_made {w : World} {g : Nat} {T : TypeId} {base n : Nat} {z : Value} (h : w.ownsRow base T 1 (.slice (some ⟨g, 0, none⟩) n n) n (madeCells #[z] n).toList) : Row w g T n (fun _ => z) := by
  have := (Arr.of_own h).1
  rw [toList_madeCells_one] at this
  unfold Row
  have e : (List.range n).map (fun _ => z) = List.replicate n z := by
    rw [List.map_const', List.length_range]
  rwa [e]

/-- What can be read through a slice that came in: its first n cells. -/
def Sl (w : World) (a : Option Addr) (n : Nat) (f : Nat → Value) : Prop :=
  0 < n → ∃ b off, a = some ⟨b, off, none⟩ ∧ b < w.heap.size ∧ ∀ j, j < n → w.cell? ⟨b, off + j, none⟩ = some (f j)
theorem Sl.below {w w' : World} {a : Option Addr} {n : Nat} {f : Nat → Value} (h : Sl w a n f) (hb : Below w.heap.size w w') : Sl w' a n f := by
  intro hn
  obtain ⟨b, off, rfl, hlt, hc⟩ := h hn
  exact ⟨b, off, rfl, Nat.lt_of_lt_of_le hlt hb.size, fun j hj => (hb.cell (p := ⟨b, off + j, none⟩) hlt).trans (hc j hj)⟩
theorem Row.sl {w : World} {g : Nat} {T : TypeId} {n : Nat} {f : Nat → Value} (h : Row w g T n f) : Sl w (some ⟨g, 0, none⟩) n f :=
  fun _ => ⟨g, 0, rfl, h.lt, fun j hj => by rw [Nat.zero_add]; exact h.cell j hj⟩

end Go.Proofs.Qxb6603957a
