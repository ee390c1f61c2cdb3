/-
  No cell of these rows narrows 'for every input' (looked for: loops, veiled, ifaces, maps, wideKeys, modest, calm, conditions, laid).
  DERIVED. THE GIVEN ROWS OF THIS SEAT. 4 by the template 'for every input the law returns true; each argument reads behind the call as it read before'; 0 by the template 'total and deterministic' (their statements: Qxb6602662aTotals.lean).
  GIVEN WITH THE SEED: the statements are not yours to turn. If you find one false, say at which input.
  Laid BY PROGRAM, IN A SANDBOX (cutbox-rows.mjs): the forced cells as the released guide's own fill.sh prints them over the translation b187056e10a912ad… (all of the seat's roots in one cut). By AI agents, Wed Nov 11 2026. No macro, syntax, notation, axiom, sorry.
-/
import Derived.Test.Qxb6602662aChecked
import GoSem.Claim
import GoSem.ClaimJoined
import GoSem.ClaimMapViews
import Derived.JoinedTies
import Derived.KernelRfl
namespace Go.Proofs.Qxb6602662a
/- THE CELL 'sum', in the pinned program and in every row, IS THE sha256 OF THE DUMP (.gsa) THAT Qxb6602662aProg.lean LOADS. Nothing in Lean hashes anything: it is a label: what it is worth is what the hold of that sum in a sandbox is worth. -/
noncomputable def Try.pinned : Pinned := { name := "qxb6602662a", sum := "b187056e10a912adb62e9c051b8c27d39977470bacbf559a413d8f67f647809f", checked := Try.checked }
namespace Rows
def none {H : Type} : Left H := { results := [], args := [] }

/-- 'zzlaws_pkg_money_b1.FnHundredthsMatchesPlaceValueSum': WHATEVER THE INPUT: true; the input reads as it did. -/
def fnHundredthsMatchesPlaceValueSumSpec : ChangeSpec := { name := "fnHundredthsMatchesPlaceValueSum", fn := fun _ => fun
  | [d1, d2] => { results := [.lit (.bool true)], args := [d1, d2] }
  | _ => none }
def fnHundredthsMatchesPlaceValueSumRow : OpenClaim := { program := "qxb6602662a", sum := "b187056e10a912adb62e9c051b8c27d39977470bacbf559a413d8f67f647809f", func := "example.com/provisor/provisor/zzlaws_pkg_money_b1.FnHundredthsMatchesPlaceValueSum", spec := "fnHundredthsMatchesPlaceValueSum", apart := false }
def FnHundredthsMatchesPlaceValueSumSaid : Prop := fnHundredthsMatchesPlaceValueSumRow.holds Try.pinned (OpenSpec.ofChange fnHundredthsMatchesPlaceValueSumSpec)

/-- ITS FALSE NEIGHBOUR: 'it returns false'. Refute it at one input. -/
def fnHundredthsMatchesPlaceValueSumWrong : ChangeSpec := { name := "fnHundredthsMatchesPlaceValueSum", fn := fun _ => fun
  | [d1, d2] => { results := [.lit (.bool false)], args := [d1, d2] }
  | _ => none }
def FnHundredthsMatchesPlaceValueSumWrongFalsely : Prop := fnHundredthsMatchesPlaceValueSumRow.holds Try.pinned (OpenSpec.ofChange fnHundredthsMatchesPlaceValueSumWrong)

/-- 'zzlaws_pkg_money_b1.FnHundredthsLeadingZeroPaddingAndPointShift': WHATEVER THE INPUT: true; the input reads as it did. -/
def fnHundredthsLeadingZeroPaddingAndPointShiftSpec : ChangeSpec := { name := "fnHundredthsLeadingZeroPaddingAndPointShift", fn := fun _ => fun
  | [d1, d2] => { results := [.lit (.bool true)], args := [d1, d2] }
  | _ => none }
def fnHundredthsLeadingZeroPaddingAndPointShiftRow : OpenClaim := { program := "qxb6602662a", sum := "b187056e10a912adb62e9c051b8c27d39977470bacbf559a413d8f67f647809f", func := "example.com/provisor/provisor/zzlaws_pkg_money_b1.FnHundredthsLeadingZeroPaddingAndPointShift", spec := "fnHundredthsLeadingZeroPaddingAndPointShift", apart := false }
def FnHundredthsLeadingZeroPaddingAndPointShiftSaid : Prop := fnHundredthsLeadingZeroPaddingAndPointShiftRow.holds Try.pinned (OpenSpec.ofChange fnHundredthsLeadingZeroPaddingAndPointShiftSpec)

/-- ITS FALSE NEIGHBOUR: 'it returns false'. Refute it at one input. -/
def fnHundredthsLeadingZeroPaddingAndPointShiftWrong : ChangeSpec := { name := "fnHundredthsLeadingZeroPaddingAndPointShift", fn := fun _ => fun
  | [d1, d2] => { results := [.lit (.bool false)], args := [d1, d2] }
  | _ => none }
def FnHundredthsLeadingZeroPaddingAndPointShiftWrongFalsely : Prop := fnHundredthsLeadingZeroPaddingAndPointShiftRow.holds Try.pinned (OpenSpec.ofChange fnHundredthsLeadingZeroPaddingAndPointShiftWrong)

/-- 'zzlaws_pkg_money_b1.FnIsDigitsMatchesByteClassModel': WHATEVER THE INPUT: true; the input reads as it did. -/
def fnIsDigitsMatchesByteClassModelSpec : ChangeSpec := { name := "fnIsDigitsMatchesByteClassModel", fn := fun _ => fun
  | [d] => { results := [.lit (.bool true)], args := [d] }
  | _ => none }
def fnIsDigitsMatchesByteClassModelRow : OpenClaim := { program := "qxb6602662a", sum := "b187056e10a912adb62e9c051b8c27d39977470bacbf559a413d8f67f647809f", func := "example.com/provisor/provisor/zzlaws_pkg_money_b1.FnIsDigitsMatchesByteClassModel", spec := "fnIsDigitsMatchesByteClassModel", apart := false }
def FnIsDigitsMatchesByteClassModelSaid : Prop := fnIsDigitsMatchesByteClassModelRow.holds Try.pinned (OpenSpec.ofChange fnIsDigitsMatchesByteClassModelSpec)

/-- ITS FALSE NEIGHBOUR: 'it returns false'. Refute it at one input. -/
def fnIsDigitsMatchesByteClassModelWrong : ChangeSpec := { name := "fnIsDigitsMatchesByteClassModel", fn := fun _ => fun
  | [d] => { results := [.lit (.bool false)], args := [d] }
  | _ => none }
def FnIsDigitsMatchesByteClassModelWrongFalsely : Prop := fnIsDigitsMatchesByteClassModelRow.holds Try.pinned (OpenSpec.ofChange fnIsDigitsMatchesByteClassModelWrong)

/-- 'zzlaws_pkg_money_b1.FnIsDigitsOfConcatenation': WHATEVER THE INPUT: true; the input reads as it did. -/
def fnIsDigitsOfConcatenationSpec : ChangeSpec := { name := "fnIsDigitsOfConcatenation", fn := fun _ => fun
  | [d1, d2] => { results := [.lit (.bool true)], args := [d1, d2] }
  | _ => none }
def fnIsDigitsOfConcatenationRow : OpenClaim := { program := "qxb6602662a", sum := "b187056e10a912adb62e9c051b8c27d39977470bacbf559a413d8f67f647809f", func := "example.com/provisor/provisor/zzlaws_pkg_money_b1.FnIsDigitsOfConcatenation", spec := "fnIsDigitsOfConcatenation", apart := false }
def FnIsDigitsOfConcatenationSaid : Prop := fnIsDigitsOfConcatenationRow.holds Try.pinned (OpenSpec.ofChange fnIsDigitsOfConcatenationSpec)

/-- ITS FALSE NEIGHBOUR: 'it returns false'. Refute it at one input. -/
def fnIsDigitsOfConcatenationWrong : ChangeSpec := { name := "fnIsDigitsOfConcatenation", fn := fun _ => fun
  | [d1, d2] => { results := [.lit (.bool false)], args := [d1, d2] }
  | _ => none }
def FnIsDigitsOfConcatenationWrongFalsely : Prop := fnIsDigitsOfConcatenationRow.holds Try.pinned (OpenSpec.ofChange fnIsDigitsOfConcatenationWrong)

end Rows
end Go.Proofs.Qxb6602662a
