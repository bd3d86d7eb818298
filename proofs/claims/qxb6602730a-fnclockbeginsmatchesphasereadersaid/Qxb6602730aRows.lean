/-
  No cell of these rows narrows 'for every input' (looked for: loops, veiled, ifaces, maps, wideKeys, modest, calm, conditions, laid).
  DERIVED. THE GIVEN ROWS OF THIS SEAT. 5 by the template 'for every input the law returns true; each argument reads behind the call as it read before'; 0 by the template 'total and deterministic' (their statements: Qxb6602730aTotals.lean).
  GIVEN WITH THE SEED: the statements are not yours to turn. If you find one false, say at which input.
  Laid BY PROGRAM, IN A SANDBOX (cutbox-rows.mjs): the forced cells as the released guide's own fill.sh prints them over the translation 9a09b8db17dc1562… (all of the seat's roots in one cut). By AI agents, Wed Nov 11 2026. No macro, syntax, notation, axiom, sorry.
-/
import Derived.Test.Qxb6602730aChecked
import GoSem.Claim
import GoSem.ClaimJoined
import GoSem.ClaimMapViews
import Derived.JoinedTies
import Derived.KernelRfl
namespace Go.Proofs.Qxb6602730a
/- THE CELL 'sum', in the pinned program and in every row, IS THE sha256 OF THE DUMP (.gsa) THAT Qxb6602730aProg.lean LOADS. Nothing in Lean hashes anything: it is a label: what it is worth is what the hold of that sum in a sandbox is worth. -/
noncomputable def Try.pinned : Pinned := { name := "qxb6602730a", sum := "9a09b8db17dc15620e470e51d6d15eca9f4f4fbc9859d2b861babee4f3c97a25", checked := Try.checked }
namespace Rows
def none {H : Type} : Left H := { results := [], args := [] }

/-- 'zzlaws_execution_b1.FnShiftUndoneByShiftingBack': WHATEVER THE INPUT: true; the input reads as it did. -/
def fnShiftUndoneByShiftingBackSpec : ChangeSpec := { name := "fnShiftUndoneByShiftingBack", fn := fun _ => fun
  | [d1, d2] => { results := [.lit (.bool true)], args := [d1, d2] }
  | _ => none }
def fnShiftUndoneByShiftingBackRow : OpenClaim := { program := "qxb6602730a", sum := "9a09b8db17dc15620e470e51d6d15eca9f4f4fbc9859d2b861babee4f3c97a25", func := "example.com/beforehand/beforehand/zzlaws_execution_b1.FnShiftUndoneByShiftingBack", spec := "fnShiftUndoneByShiftingBack", apart := false }
def FnShiftUndoneByShiftingBackSaid : Prop := fnShiftUndoneByShiftingBackRow.holds Try.pinned (OpenSpec.ofChange fnShiftUndoneByShiftingBackSpec)

/-- ITS FALSE NEIGHBOUR: 'it returns false'. Refute it at one input. -/
def fnShiftUndoneByShiftingBackWrong : ChangeSpec := { name := "fnShiftUndoneByShiftingBack", fn := fun _ => fun
  | [d1, d2] => { results := [.lit (.bool false)], args := [d1, d2] }
  | _ => none }
def FnShiftUndoneByShiftingBackWrongFalsely : Prop := fnShiftUndoneByShiftingBackRow.holds Try.pinned (OpenSpec.ofChange fnShiftUndoneByShiftingBackWrong)

/-- 'zzlaws_execution_b1.FnShiftComposesAdditively': WHATEVER THE INPUT: true; the input reads as it did. -/
def fnShiftComposesAdditivelySpec : ChangeSpec := { name := "fnShiftComposesAdditively", fn := fun _ => fun
  | [d1, d2, d3] => { results := [.lit (.bool true)], args := [d1, d2, d3] }
  | _ => none }
def fnShiftComposesAdditivelyRow : OpenClaim := { program := "qxb6602730a", sum := "9a09b8db17dc15620e470e51d6d15eca9f4f4fbc9859d2b861babee4f3c97a25", func := "example.com/beforehand/beforehand/zzlaws_execution_b1.FnShiftComposesAdditively", spec := "fnShiftComposesAdditively", apart := false }
def FnShiftComposesAdditivelySaid : Prop := fnShiftComposesAdditivelyRow.holds Try.pinned (OpenSpec.ofChange fnShiftComposesAdditivelySpec)

/-- ITS FALSE NEIGHBOUR: 'it returns false'. Refute it at one input. -/
def fnShiftComposesAdditivelyWrong : ChangeSpec := { name := "fnShiftComposesAdditively", fn := fun _ => fun
  | [d1, d2, d3] => { results := [.lit (.bool false)], args := [d1, d2, d3] }
  | _ => none }
def FnShiftComposesAdditivelyWrongFalsely : Prop := fnShiftComposesAdditivelyRow.holds Try.pinned (OpenSpec.ofChange fnShiftComposesAdditivelyWrong)

/-- 'zzlaws_execution_b1.FnClockBeginsMatchesPhaseReader': WHATEVER THE INPUT: true; the input reads as it did. -/
def fnClockBeginsMatchesPhaseReaderSpec : ChangeSpec := { name := "fnClockBeginsMatchesPhaseReader", fn := fun _ => fun
  | [d] => { results := [.lit (.bool true)], args := [d] }
  | _ => none }
def fnClockBeginsMatchesPhaseReaderRow : OpenClaim := { program := "qxb6602730a", sum := "9a09b8db17dc15620e470e51d6d15eca9f4f4fbc9859d2b861babee4f3c97a25", func := "example.com/beforehand/beforehand/zzlaws_execution_b1.FnClockBeginsMatchesPhaseReader", spec := "fnClockBeginsMatchesPhaseReader", apart := false }
def FnClockBeginsMatchesPhaseReaderSaid : Prop := fnClockBeginsMatchesPhaseReaderRow.holds Try.pinned (OpenSpec.ofChange fnClockBeginsMatchesPhaseReaderSpec)

/-- ITS FALSE NEIGHBOUR: 'it returns false'. Refute it at one input. -/
def fnClockBeginsMatchesPhaseReaderWrong : ChangeSpec := { name := "fnClockBeginsMatchesPhaseReader", fn := fun _ => fun
  | [d] => { results := [.lit (.bool false)], args := [d] }
  | _ => none }
def FnClockBeginsMatchesPhaseReaderWrongFalsely : Prop := fnClockBeginsMatchesPhaseReaderRow.holds Try.pinned (OpenSpec.ofChange fnClockBeginsMatchesPhaseReaderWrong)

/-- 'zzlaws_execution_b1.FnClockBeginsOnEveryPrefixPastTheQuote': WHATEVER THE INPUT: true; the input reads as it did. -/
def fnClockBeginsOnEveryPrefixPastTheQuoteSpec : ChangeSpec := { name := "fnClockBeginsOnEveryPrefixPastTheQuote", fn := fun _ => fun
  | [d] => { results := [.lit (.bool true)], args := [d] }
  | _ => none }
def fnClockBeginsOnEveryPrefixPastTheQuoteRow : OpenClaim := { program := "qxb6602730a", sum := "9a09b8db17dc15620e470e51d6d15eca9f4f4fbc9859d2b861babee4f3c97a25", func := "example.com/beforehand/beforehand/zzlaws_execution_b1.FnClockBeginsOnEveryPrefixPastTheQuote", spec := "fnClockBeginsOnEveryPrefixPastTheQuote", apart := false }
def FnClockBeginsOnEveryPrefixPastTheQuoteSaid : Prop := fnClockBeginsOnEveryPrefixPastTheQuoteRow.holds Try.pinned (OpenSpec.ofChange fnClockBeginsOnEveryPrefixPastTheQuoteSpec)

/-- ITS FALSE NEIGHBOUR: 'it returns false'. Refute it at one input. -/
def fnClockBeginsOnEveryPrefixPastTheQuoteWrong : ChangeSpec := { name := "fnClockBeginsOnEveryPrefixPastTheQuote", fn := fun _ => fun
  | [d] => { results := [.lit (.bool false)], args := [d] }
  | _ => none }
def FnClockBeginsOnEveryPrefixPastTheQuoteWrongFalsely : Prop := fnClockBeginsOnEveryPrefixPastTheQuoteRow.holds Try.pinned (OpenSpec.ofChange fnClockBeginsOnEveryPrefixPastTheQuoteWrong)

/-- 'zzlaws_execution_b1.FnClockBeginsRefusalSurvivesMoreText': WHATEVER THE INPUT: true; the input reads as it did. -/
def fnClockBeginsRefusalSurvivesMoreTextSpec : ChangeSpec := { name := "fnClockBeginsRefusalSurvivesMoreText", fn := fun _ => fun
  | [d1, d2] => { results := [.lit (.bool true)], args := [d1, d2] }
  | _ => none }
def fnClockBeginsRefusalSurvivesMoreTextRow : OpenClaim := { program := "qxb6602730a", sum := "9a09b8db17dc15620e470e51d6d15eca9f4f4fbc9859d2b861babee4f3c97a25", func := "example.com/beforehand/beforehand/zzlaws_execution_b1.FnClockBeginsRefusalSurvivesMoreText", spec := "fnClockBeginsRefusalSurvivesMoreText", apart := false }
def FnClockBeginsRefusalSurvivesMoreTextSaid : Prop := fnClockBeginsRefusalSurvivesMoreTextRow.holds Try.pinned (OpenSpec.ofChange fnClockBeginsRefusalSurvivesMoreTextSpec)

/-- ITS FALSE NEIGHBOUR: 'it returns false'. Refute it at one input. -/
def fnClockBeginsRefusalSurvivesMoreTextWrong : ChangeSpec := { name := "fnClockBeginsRefusalSurvivesMoreText", fn := fun _ => fun
  | [d1, d2] => { results := [.lit (.bool false)], args := [d1, d2] }
  | _ => none }
def FnClockBeginsRefusalSurvivesMoreTextWrongFalsely : Prop := fnClockBeginsRefusalSurvivesMoreTextRow.holds Try.pinned (OpenSpec.ofChange fnClockBeginsRefusalSurvivesMoreTextWrong)

end Rows
end Go.Proofs.Qxb6602730a
