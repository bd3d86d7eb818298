import Derived.Test.Qxb6605188aDigit
import Derived.Lib.AppendStr
namespace Go.Proofs.Qxb6605188a
open Go.RowKit
set_option linter.unusedVariables false

theorem Try.info5 : (Try.prog.info? 5).map (fun i => (i.zero, i.size, i.bytes)) = some (some (.int .u8 0), 1, 1) := by kernel_rfl

/-- Bytes as cells. -/
def cellsB (l : List UInt8) : List Value := l.map fun b => Value.int .u8 b.toNat
theorem cellsB_length (l : List UInt8) : (cellsB l).length = l.length := by simp [cellsB]
theorem cellsB_append (l m : List UInt8) : cellsB (l ++ m) = cellsB l ++ cellsB m := by simp [cellsB]
theorem cellsB_one (l : List UInt8) : ∀ u ∈ cellsB l, u.oneCell' = true := by
  intro u hu
  obtain ⟨_, _, rfl⟩ := List.mem_map.1 hu
  rfl
theorem cellsB_str (s : ByteArray) : Lib.strCells s = cellsB s.data.toList := rfl
theorem cellsB_snoc (l : List UInt8) (k : Nat) (h : k < l.length) (d : Int) (hd : d = (l[k].toNat : Int)) : cellsB (l.take (k + 1)) = cellsB (l.take k) ++ [.int .u8 d] := by
  rw [List.take_succ_eq_append_getElem h, cellsB_append, hd]
  rfl

/-- What is owned stays owned behind a call that turns nothing old. -/
theorem owns_below {w w' : World} {base : Nat} {e : TypeId} {size : Nat} {v : Value} {n : Nat} {xs : List Value} (h : w.ownsRow base e size v n xs) (hb : Below w.heap.size w w') : w'.ownsRow base e size v n xs :=
  h.kept (row := none) ⟨hb.os, hb.tape, hb.output, hb.size, fun k hk _ => hb.block k hk⟩ (by cases hv : v.ownBlock <;> simp)

/-- 'string(b)', b a row of the call's own. -/
theorem conv_owned {w : World} {base g n cap : Nat} {l : List UInt8} (h : w.ownsRow base 5 1 (.slice (some ⟨g, 0, none⟩) n cap) n (cellsB l)) :
    (convert 27 9 (.slice (some ⟨g, 0, none⟩) n cap)).run Try.prog w = .ok (.string ⟨l.toArray⟩) w := by
  have hn : l.length = n := by simpa [cellsB_length] using h.1
  subst hn
  refine run_convert_bytes_back w 27 9 5 ⟨g, 0, none⟩ cap l Try.underlying27 Try.underlying5 Try.underlying9 (fun j hj => ?_)
  exact h.cells (g := g) rfl j _ (by simp [cellsB, hj])

theorem ba_list (s : ByteArray) : (⟨s.data.toList.toArray⟩ : ByteArray) = s := by
  cases s
  rfl

end Go.Proofs.Qxb6605188a
