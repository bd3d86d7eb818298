/-
  No cell of these rows narrows 'for every input' (looked for: loops, veiled, ifaces, maps, wideKeys, modest, calm, conditions, laid).
  DERIVED. THE GIVEN ROWS OF THIS SEAT. 1 by the template 'for every input the law returns true; each argument reads behind the call as it read before'; 0 by the template 'total and deterministic' (their statements: Qxb6603957aTotals.lean).
  GIVEN WITH THE SEED: the statements are not yours to turn. If you find one false, say at which input.
  Laid BY PROGRAM, IN A SANDBOX (cutbox-rows.mjs): the forced cells as the released guide's own fill.sh prints them over the translation 75cf72bcb551a797… (all of the seat's roots in one cut). By AI agents, Wed Nov 11 2026. No macro, syntax, notation, axiom, sorry.
-/
import Derived.Test.Qxb6603957aChecked
import GoSem.Claim
import GoSem.ClaimJoined
import GoSem.ClaimMapViews
import Derived.JoinedTies
import Derived.KernelRfl
namespace Go.Proofs.Qxb6603957a
/- THE CELL 'sum', in the pinned program and in every row, IS THE sha256 OF THE DUMP (.gsa) THAT Qxb6603957aProg.lean LOADS. Nothing in Lean hashes anything: it is a label: what it is worth is what the hold of that sum in a sandbox is worth. -/
noncomputable def Try.pinned : Pinned := { name := "qxb6603957a", sum := "75cf72bcb551a797a2cb0d7a11918f56fe5dddd34a05584fe3137898d34ee48f", checked := Try.checked }
namespace Rows
def none {H : Type} : Left H := { results := [], args := [] }

/-- 'zzlaws_pkg_diff_b1.FnSlideLeavesEachRunAtRest': WHATEVER THE INPUT: true; the input reads as it did. -/
def fnSlideLeavesEachRunAtRestSpec : ChangeSpec := { name := "fnSlideLeavesEachRunAtRest", fn := fun _ => fun
  | [d1, d2, d3] => { results := [.lit (.bool true)], args := [d1, d2, d3] }
  | _ => none }
def fnSlideLeavesEachRunAtRestRow : OpenClaim := { program := "qxb6603957a", sum := "75cf72bcb551a797a2cb0d7a11918f56fe5dddd34a05584fe3137898d34ee48f", func := "example.com/stagekeeper/stagekeeper/zzlaws_pkg_diff_b1.FnSlideLeavesEachRunAtRest", spec := "fnSlideLeavesEachRunAtRest", apart := false }
def FnSlideLeavesEachRunAtRestSaid : Prop := fnSlideLeavesEachRunAtRestRow.holds Try.pinned (OpenSpec.ofChange fnSlideLeavesEachRunAtRestSpec)

/-- ITS FALSE NEIGHBOUR: 'it returns false'. Refute it at one input. -/
def fnSlideLeavesEachRunAtRestWrong : ChangeSpec := { name := "fnSlideLeavesEachRunAtRest", fn := fun _ => fun
  | [d1, d2, d3] => { results := [.lit (.bool false)], args := [d1, d2, d3] }
  | _ => none }
def FnSlideLeavesEachRunAtRestWrongFalsely : Prop := fnSlideLeavesEachRunAtRestRow.holds Try.pinned (OpenSpec.ofChange fnSlideLeavesEachRunAtRestWrong)

end Rows
end Go.Proofs.Qxb6603957a
