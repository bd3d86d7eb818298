/-
  No cell of these rows narrows 'for every input' (looked for: loops, veiled, ifaces, maps, wideKeys, modest, calm, conditions, laid).
  DERIVED. THE GIVEN ROWS OF THIS SEAT. 5 by the template 'for every input the law returns true; each argument reads behind the call as it read before'; 0 by the template 'total and deterministic' (their statements: Qxb6605188aTotals.lean).
  GIVEN WITH THE SEED: the statements are not yours to turn. If you find one false, say at which input.
  Laid BY PROGRAM, IN A SANDBOX (cutbox-rows.mjs): the forced cells as the released guide's own fill.sh prints them over the translation 4c52c8c1e4d0493e… (all of the seat's roots in one cut). By AI agents, Wed Nov 11 2026. No macro, syntax, notation, axiom, sorry.
-/
import Derived.Test.Qxb6605188aChecked
import GoSem.Claim
import GoSem.ClaimJoined
import GoSem.ClaimMapViews
import Derived.JoinedTies
import Derived.KernelRfl
namespace Go.Proofs.Qxb6605188a
/- THE CELL 'sum', in the pinned program and in every row, IS THE sha256 OF THE DUMP (.gsa) THAT Qxb6605188aProg.lean LOADS. Nothing in Lean hashes anything: it is a label: what it is worth is what the hold of that sum in a sandbox is worth. -/
noncomputable def Try.pinned : Pinned := { name := "qxb6605188a", sum := "4c52c8c1e4d0493ee875add50f56ea5f6c51b07762bf062eaf714542bb44da11", checked := Try.checked }
namespace Rows
def none {H : Type} : Left H := { results := [], args := [] }

/-- 'zzlaws_exact_b1.FnIsDigitsByTable': WHATEVER THE INPUT: true; the input reads as it did. -/
def fnIsDigitsByTableSpec : ChangeSpec := { name := "fnIsDigitsByTable", fn := fun _ => fun
  | [d] => { results := [.lit (.bool true)], args := [d] }
  | _ => none }
def fnIsDigitsByTableRow : OpenClaim := { program := "qxb6605188a", sum := "4c52c8c1e4d0493ee875add50f56ea5f6c51b07762bf062eaf714542bb44da11", func := "example.com/oddsmith/oddsmith/zzlaws_exact_b1.FnIsDigitsByTable", spec := "fnIsDigitsByTable", apart := false }
def FnIsDigitsByTableSaid : Prop := fnIsDigitsByTableRow.holds Try.pinned (OpenSpec.ofChange fnIsDigitsByTableSpec)

/-- ITS FALSE NEIGHBOUR: 'it returns false'. Refute it at one input. -/
def fnIsDigitsByTableWrong : ChangeSpec := { name := "fnIsDigitsByTable", fn := fun _ => fun
  | [d] => { results := [.lit (.bool false)], args := [d] }
  | _ => none }
def FnIsDigitsByTableWrongFalsely : Prop := fnIsDigitsByTableRow.holds Try.pinned (OpenSpec.ofChange fnIsDigitsByTableWrong)

/-- 'zzlaws_exact_b1.FnDecimalDigitByPoint': WHATEVER THE INPUT: true; the input reads as it did. -/
def fnDecimalDigitByPointSpec : ChangeSpec := { name := "fnDecimalDigitByPoint", fn := fun _ => fun
  | [d1, d2, d3] => { results := [.lit (.bool true)], args := [d1, d2, d3] }
  | _ => none }
def fnDecimalDigitByPointRow : OpenClaim := { program := "qxb6605188a", sum := "4c52c8c1e4d0493ee875add50f56ea5f6c51b07762bf062eaf714542bb44da11", func := "example.com/oddsmith/oddsmith/zzlaws_exact_b1.FnDecimalDigitByPoint", spec := "fnDecimalDigitByPoint", apart := false }
def FnDecimalDigitByPointSaid : Prop := fnDecimalDigitByPointRow.holds Try.pinned (OpenSpec.ofChange fnDecimalDigitByPointSpec)

/-- ITS FALSE NEIGHBOUR: 'it returns false'. Refute it at one input. -/
def fnDecimalDigitByPointWrong : ChangeSpec := { name := "fnDecimalDigitByPoint", fn := fun _ => fun
  | [d1, d2, d3] => { results := [.lit (.bool false)], args := [d1, d2, d3] }
  | _ => none }
def FnDecimalDigitByPointWrongFalsely : Prop := fnDecimalDigitByPointRow.holds Try.pinned (OpenSpec.ofChange fnDecimalDigitByPointWrong)

/-- 'zzlaws_exact_b1.FnDecimalDigitsRebuildText': WHATEVER THE INPUT: true; the input reads as it did. -/
def fnDecimalDigitsRebuildTextSpec : ChangeSpec := { name := "fnDecimalDigitsRebuildText", fn := fun _ => fun
  | [d1, d2] => { results := [.lit (.bool true)], args := [d1, d2] }
  | _ => none }
def fnDecimalDigitsRebuildTextRow : OpenClaim := { program := "qxb6605188a", sum := "4c52c8c1e4d0493ee875add50f56ea5f6c51b07762bf062eaf714542bb44da11", func := "example.com/oddsmith/oddsmith/zzlaws_exact_b1.FnDecimalDigitsRebuildText", spec := "fnDecimalDigitsRebuildText", apart := false }
def FnDecimalDigitsRebuildTextSaid : Prop := fnDecimalDigitsRebuildTextRow.holds Try.pinned (OpenSpec.ofChange fnDecimalDigitsRebuildTextSpec)

/-- ITS FALSE NEIGHBOUR: 'it returns false'. Refute it at one input. -/
def fnDecimalDigitsRebuildTextWrong : ChangeSpec := { name := "fnDecimalDigitsRebuildText", fn := fun _ => fun
  | [d1, d2] => { results := [.lit (.bool false)], args := [d1, d2] }
  | _ => none }
def FnDecimalDigitsRebuildTextWrongFalsely : Prop := fnDecimalDigitsRebuildTextRow.holds Try.pinned (OpenSpec.ofChange fnDecimalDigitsRebuildTextWrong)

/-- 'zzlaws_exact_b1.FnPricesStringByBytes': WHATEVER THE INPUT: true; the input reads as it did. -/
def fnPricesStringByBytesSpec : ChangeSpec := { name := "fnPricesStringByBytes", fn := fun _ => fun
  | [d] => { results := [.lit (.bool true)], args := [d] }
  | _ => none }
def fnPricesStringByBytesRow : OpenClaim := { program := "qxb6605188a", sum := "4c52c8c1e4d0493ee875add50f56ea5f6c51b07762bf062eaf714542bb44da11", func := "example.com/oddsmith/oddsmith/zzlaws_exact_b1.FnPricesStringByBytes", spec := "fnPricesStringByBytes", apart := false }
def FnPricesStringByBytesSaid : Prop := fnPricesStringByBytesRow.holds Try.pinned (OpenSpec.ofChange fnPricesStringByBytesSpec)

/-- ITS FALSE NEIGHBOUR: 'it returns false'. Refute it at one input. -/
def fnPricesStringByBytesWrong : ChangeSpec := { name := "fnPricesStringByBytes", fn := fun _ => fun
  | [d] => { results := [.lit (.bool false)], args := [d] }
  | _ => none }
def FnPricesStringByBytesWrongFalsely : Prop := fnPricesStringByBytesRow.holds Try.pinned (OpenSpec.ofChange fnPricesStringByBytesWrong)

/-- 'zzlaws_exact_b1.FnPricesStringSplits': WHATEVER THE INPUT: true; the input reads as it did. -/
def fnPricesStringSplitsSpec : ChangeSpec := { name := "fnPricesStringSplits", fn := fun _ => fun
  | [d1, d2] => { results := [.lit (.bool true)], args := [d1, d2] }
  | _ => none }
def fnPricesStringSplitsRow : OpenClaim := { program := "qxb6605188a", sum := "4c52c8c1e4d0493ee875add50f56ea5f6c51b07762bf062eaf714542bb44da11", func := "example.com/oddsmith/oddsmith/zzlaws_exact_b1.FnPricesStringSplits", spec := "fnPricesStringSplits", apart := false }
def FnPricesStringSplitsSaid : Prop := fnPricesStringSplitsRow.holds Try.pinned (OpenSpec.ofChange fnPricesStringSplitsSpec)

/-- ITS FALSE NEIGHBOUR: 'it returns false'. Refute it at one input. -/
def fnPricesStringSplitsWrong : ChangeSpec := { name := "fnPricesStringSplits", fn := fun _ => fun
  | [d1, d2] => { results := [.lit (.bool false)], args := [d1, d2] }
  | _ => none }
def FnPricesStringSplitsWrongFalsely : Prop := fnPricesStringSplitsRow.holds Try.pinned (OpenSpec.ofChange fnPricesStringSplitsWrong)

end Rows
end Go.Proofs.Qxb6605188a
