import Derived.Test.Qxb6603957aLaw
import Derived.ProofKit
import Derived.OpenShut
import Derived.ShutString
import Derived.ChangeOld
import Derived.Below
import Derived.Deep.Grids
namespace Go.Proofs.Qxb6603957a.fnSlideLeavesEachRunAtRest
open Go.ChangeShapes Go.WideShapes Go.ChangeAt Go.RowKit
set_option linter.unusedVariables false

theorem own : ownKnob Try.prog.godebug = none := by kernel_rfl
theorem laidOut : laidOutB Try.prog = true := by kernel_rfl

/-- What the walk is told of a slice that came in: nil only where it has no element; its length; its cells. -/
def IsSl (w : World) (a : Option Addr) (len : Nat) (f : Nat → Value) : Prop := (a = none → len = 0) ∧ len ≤ maxLen ∧ Sl w a len f

theorem isSl_nil (w : World) (f : Nat → Value) : IsSl w none 0 f := ⟨fun _ => rfl, Nat.zero_le _, fun h => by omega⟩
theorem isSl_some {w : World} {x : Addr} {len cap : Nat} {f : Nat → Value} (hl : len ≤ cap) (hm : cap ≤ maxLen) (hcell : ∀ i, i < cap → w.cell? (x.add i) = some (f i)) : IsSl w (some x) len f := by
  refine ⟨fun h => (by cases h), Nat.le_trans hl hm, fun hn => ?_⟩
  obtain ⟨b, off, spot⟩ := x
  have hspot : spot = none := by simpa [Addr.add] using World.cell?_spot (hcell 0 (by omega))
  subst hspot
  have hc : ∀ j, j < cap → w.cell? ⟨b, off + j, none⟩ = some (f j) := fun j hj => by rw [← add_plain]; exact hcell j hj
  exact ⟨b, off, rfl, World.block_lt_of_cell? w _ (hc 0 (by omega)), fun j hj => hc j (by omega)⟩

theorem walk (a0 a1 a2 : Option Addr) (n0 n1 n2 c0 c1 c2 : Nat) (L : Nat → Int) (C O : Nat → Bool) (w : World) (h0 : IsSl w a0 n0 (intsF L)) (h1 : IsSl w a1 n1 (boolsF C)) (h2 : IsSl w a2 n2 (boolsF O)) :
    Calls Try.prog 3 #[.slice a0 n0 c0, .slice a1 n1 c1, .slice a2 n2 c2] w fun e w' => e = .returned (.bool true) ∧ Below w.heap.size w w' := by
  by_cases hs : (n0 : Int) + (n1 : Int) + (n2 : Int) ≤ 1048576
  · by_cases hl : (n0 : Int) ≤ 65536 ∧ (n1 : Int) ≤ 65536 ∧ (n2 : Int) ≤ 65536
    · by_cases he : n1 = n0
      · subst he
        by_cases hF : fc C n1 ≤ fc O n2
        · exact law_run a0 a1 a2 n1 n2 c0 c1 c2 L C O w hl.1 hl.2.2 h0.1 h1.1 h2.1 h0.2.2 h1.2.2 h2.2.2 hF
        · exact law_more a0 a1 a2 n1 n2 c0 c1 c2 C O w hl.1 hl.2.2 h1.2.2 h2.2.2 (by omega)
      · exact law_neq a0 a1 a2 n0 n1 n2 c0 c1 c2 w hl.1 hl.2.1 hl.2.2 he
    · exact law_long a0 a1 a2 n0 n1 n2 c0 c1 c2 w hs hl
  · exact law_no a0 a1 a2 n0 n1 n2 c0 c1 c2 w h0.2.1 h1.2.1 h2.2.1 hs

set_option maxRecDepth 100000 in
theorem lifted (os : Os) (started : os.Started) (H : Type) (enc : TypeId × Value → H) :
    ReturnsInHanded {} Try.checked os 3 .any (Rows.fnSlideLeavesEachRunAtRestSpec.pre6 enc Try.prog Try.f3 Rows.fnSlideLeavesEachRunAtRestRow.domain false) (Rows.fnSlideLeavesEachRunAtRestSpec.post enc Try.prog Try.f3 false true false false) := by
  refine returnsInHanded_of_change (C := Try.checked) own started (by kernel_rfl) Try.func3
    (ChangeSpec.witness6 (enc := enc) (C := Try.checked) false ⟨#[], #[.slice none 0 0, .slice none 0 0, .slice none 0 0], []⟩ 8 (by kernel_rfl) (by kernel_rfl) (by kernel_rfl) (by kernel_rfl)) ?_
  intro W base args ds gs before hval0 hW hcnd _
  have hval : ∀ (j : Nat) t v, Try.f3.params[j]? = some t → args[j]? = some v → Value.okWide Try.prog W .any base t v := hval0
  have hW' := hW
  obtain ⟨p, q, hA0, hV, rfl, hfz, hnd⟩ := hW
  have hA : DataW.TrodAll enc Try.prog W 0 (fun _ => true) true Try.f3.params.toList args.toList ds p := hA0
  rw [Try.params3] at hA hval
  obtain ⟨v0, vs0, d0, ds0, p0, q0, hargs, rfl, rfl, h0, r0⟩ := trodAll_cons hA
  obtain ⟨v1, vs1, d1, ds1, p1, q1, rfl, rfl, rfl, h1, r1⟩ := trodAll_cons r0
  obtain ⟨v2, vs2, d2, ds2, p2, q2, rfl, rfl, rfl, h2, r2⟩ := trodAll_cons r1
  obtain ⟨rfl, rfl, rfl⟩ := trodAll_nil r2
  obtain rfl : args = #[v0, v1, v2] := by cases args; simp_all
  obtain ⟨rfl, rfl⟩ := trodVars_none hV
  obtain ⟨a0, len0, cap0, rfl⟩ := okWide_slice Try.underlying22 (hval 0 22 v0 rfl rfl)
  obtain ⟨a1, len1, cap1, rfl⟩ := okWide_slice Try.underlying23 (hval 1 23 v1 rfl rfl)
  obtain ⟨a2, len2, cap2, rfl⟩ := okWide_slice Try.underlying23 (hval 2 23 v2 rfl rfl)
  have k0 := h0
  have k1 := h1
  have k2 := h2
  have lt0 : ∀ x ∈ p0, x.block < W.heap.size := by obtain ⟨m, hm⟩ := k0; exact DataW.trod_lt m _ _ _ hm
  have lt1 : ∀ x ∈ p1, x.block < W.heap.size := by obtain ⟨m, hm⟩ := k1; exact DataW.trod_lt m _ _ _ hm
  have lt2 : ∀ x ∈ p2, x.block < W.heap.size := by obtain ⟨m, hm⟩ := k2; exact DataW.trod_lt m _ _ _ hm
  obtain ⟨L, w0⟩ : ∃ L, IsSl W a0 len0 (intsF L) := by
    obtain ⟨fuel, hf⟩ := h0
    rcases open_ints Try.underlying22 Try.underlying3 (by kernel_rfl) hf with ⟨hcs, _⟩ | ⟨x, l, c, zs, hcs, _, hl, hm, hz, _, hcell, hwz⟩
    · simp [Value.cells] at hcs
      obtain ⟨rfl, rfl, rfl⟩ := hcs
      exact ⟨fun _ => 0, isSl_nil _ _⟩
    · simp [Value.cells] at hcs
      obtain ⟨rfl, rfl, rfl⟩ := hcs
      have hz' : zs.length = cap0 := by simpa using hz
      exact ⟨fun i => zs.getD i 0, isSl_some hl hm (fun i hi => hcell i (by omega))⟩
  obtain ⟨C, w1⟩ : ∃ C, IsSl W a1 len1 (boolsF C) := by
    obtain ⟨fuel, hf⟩ := h1
    rcases Go.Deep.open_bools Try.underlying23 Try.underlying4 (by kernel_rfl) hf with ⟨hcs, _⟩ | ⟨x, l, c, B, hcs, _, hl, hm, _, hcell⟩
    · simp [Value.cells] at hcs
      obtain ⟨rfl, rfl, rfl⟩ := hcs
      exact ⟨fun _ => false, isSl_nil _ _⟩
    · simp [Value.cells] at hcs
      obtain ⟨rfl, rfl, rfl⟩ := hcs
      exact ⟨B, isSl_some hl hm hcell⟩
  obtain ⟨O, w2⟩ : ∃ O, IsSl W a2 len2 (boolsF O) := by
    obtain ⟨fuel, hf⟩ := h2
    rcases Go.Deep.open_bools Try.underlying23 Try.underlying4 (by kernel_rfl) hf with ⟨hcs, _⟩ | ⟨x, l, c, B, hcs, _, hl, hm, _, hcell⟩
    · simp [Value.cells] at hcs
      obtain ⟨rfl, rfl, rfl⟩ := hcs
      exact ⟨fun _ => false, isSl_nil _ _⟩
    · simp [Value.cells] at hcs
      obtain ⟨rfl, rfl, rfl⟩ := hcs
      exact ⟨B, isSl_some hl hm hcell⟩
  clear hA0 hval0
  refine (walk a0 a1 a2 len0 len1 len2 cap0 cap1 cap2 L C O W w0 w1 w2).mono fun e W' ⟨he, bel⟩ => ?_
  subst he
  exact ⟨_, rfl, _, _, _, [], _, [], hW', trodAll_mk1 (shut_bool Try.underlying4 _), (trodAll_cons_mk (Below.trod laidOut (by kernel_rfl) (of_decide_eq_true (by kernel_rfl)) k0 bel lt0) (trodAll_cons_mk (Below.trod laidOut (by kernel_rfl) (of_decide_eq_true (by kernel_rfl)) k1 bel lt1) (trodAll_cons_mk (Below.trod laidOut (by kernel_rfl) (of_decide_eq_true (by kernel_rfl)) k2 bel lt2) trodAll_mk0))), rfl, bel.frame _, fun h => by cases h⟩

theorem over : Rows.fnSlideLeavesEachRunAtRestRow.holds Try.pinned (OpenSpec.ofChange Rows.fnSlideLeavesEachRunAtRestSpec) :=
  OpenClaim.holds_of_wide 3 Try.f3 rfl rfl rfl rfl rfl rfl rfl ⟨rfl, rfl, rfl, rfl, rfl⟩ rfl rfl rfl rfl rfl (by kernel_rfl) Try.func3 (by kernel_rfl)
    (of_decide_eq_true (by kernel_rfl)) (by unfold Func.isWrapper; first | (rw [if_pos (by decide +kernel)]; kernel_rfl) | (rw [if_neg (by decide +kernel)]; exact ⟨rfl, rfl⟩))
    (fun os started H enc _ => lifted os started H enc)

theorem proved : Rows.FnSlideLeavesEachRunAtRestSaid := over
#print axioms proved
end Go.Proofs.Qxb6603957a.fnSlideLeavesEachRunAtRest
