/-
  No cell of these rows narrows 'for every input' (looked for: loops, veiled, ifaces, maps, wideKeys, modest, calm, conditions, laid).
  DERIVED. THE GIVEN ROWS OF THIS SEAT. 5 by the template 'for every input the law returns true; each argument reads behind the call as it read before'; 0 by the template 'total and deterministic' (their statements: Qxb6602618aTotals.lean).
  GIVEN WITH THE SEED: the statements are not yours to turn. If you find one false, say at which input.
  Laid BY PROGRAM, IN A SANDBOX (cutbox-rows.mjs): the forced cells as the released guide's own fill.sh prints them over the translation f0ce01adc0d812e2… (all of the seat's roots in one cut). By AI agents, Wed Nov 11 2026. No macro, syntax, notation, axiom, sorry.
-/
import Derived.Test.Qxb6602618aChecked
import GoSem.Claim
import GoSem.ClaimJoined
import GoSem.ClaimMapViews
import Derived.JoinedTies
import Derived.KernelRfl
namespace Go.Proofs.Qxb6602618a
/- THE CELL 'sum', in the pinned program and in every row, IS THE sha256 OF THE DUMP (.gsa) THAT Qxb6602618aProg.lean LOADS. Nothing in Lean hashes anything: it is a label: what it is worth is what the hold of that sum in a sandbox is worth. -/
noncomputable def Try.pinned : Pinned := { name := "qxb6602618a", sum := "f0ce01adc0d812e220dc10e8461d6238f8bbd8566a00e5a2092f893b0d0d5a87", checked := Try.checked }
namespace Rows
def none {H : Type} : Left H := { results := [], args := [] }

/-- 'zzlaws_internal_envelope_b1.FnPlainFileNameSplitsAtEveryCut': WHATEVER THE INPUT: true; the input reads as it did. -/
def fnPlainFileNameSplitsAtEveryCutSpec : ChangeSpec := { name := "fnPlainFileNameSplitsAtEveryCut", fn := fun _ => fun
  | [d1, d2] => { results := [.lit (.bool true)], args := [d1, d2] }
  | _ => none }
def fnPlainFileNameSplitsAtEveryCutRow : OpenClaim := { program := "qxb6602618a", sum := "f0ce01adc0d812e220dc10e8461d6238f8bbd8566a00e5a2092f893b0d0d5a87", func := "example.com/wayline/wayline/zzlaws_internal_envelope_b1.FnPlainFileNameSplitsAtEveryCut", spec := "fnPlainFileNameSplitsAtEveryCut", apart := false }
def FnPlainFileNameSplitsAtEveryCutSaid : Prop := fnPlainFileNameSplitsAtEveryCutRow.holds Try.pinned (OpenSpec.ofChange fnPlainFileNameSplitsAtEveryCutSpec)

/-- ITS FALSE NEIGHBOUR: 'it returns false'. Refute it at one input. -/
def fnPlainFileNameSplitsAtEveryCutWrong : ChangeSpec := { name := "fnPlainFileNameSplitsAtEveryCut", fn := fun _ => fun
  | [d1, d2] => { results := [.lit (.bool false)], args := [d1, d2] }
  | _ => none }
def FnPlainFileNameSplitsAtEveryCutWrongFalsely : Prop := fnPlainFileNameSplitsAtEveryCutRow.holds Try.pinned (OpenSpec.ofChange fnPlainFileNameSplitsAtEveryCutWrong)

/-- 'zzlaws_internal_envelope_b1.FnMatchesSplitsAtEveryCut': WHATEVER THE INPUT: true; the input reads as it did. -/
def fnMatchesSplitsAtEveryCutSpec : ChangeSpec := { name := "fnMatchesSplitsAtEveryCut", fn := fun _ => fun
  | [d1, d2, d3, d4] => { results := [.lit (.bool true)], args := [d1, d2, d3, d4] }
  | _ => none }
def fnMatchesSplitsAtEveryCutRow : OpenClaim := { program := "qxb6602618a", sum := "f0ce01adc0d812e220dc10e8461d6238f8bbd8566a00e5a2092f893b0d0d5a87", func := "example.com/wayline/wayline/zzlaws_internal_envelope_b1.FnMatchesSplitsAtEveryCut", spec := "fnMatchesSplitsAtEveryCut", apart := false }
def FnMatchesSplitsAtEveryCutSaid : Prop := fnMatchesSplitsAtEveryCutRow.holds Try.pinned (OpenSpec.ofChange fnMatchesSplitsAtEveryCutSpec)

/-- ITS FALSE NEIGHBOUR: 'it returns false'. Refute it at one input. -/
def fnMatchesSplitsAtEveryCutWrong : ChangeSpec := { name := "fnMatchesSplitsAtEveryCut", fn := fun _ => fun
  | [d1, d2, d3, d4] => { results := [.lit (.bool false)], args := [d1, d2, d3, d4] }
  | _ => none }
def FnMatchesSplitsAtEveryCutWrongFalsely : Prop := fnMatchesSplitsAtEveryCutRow.holds Try.pinned (OpenSpec.ofChange fnMatchesSplitsAtEveryCutWrong)

/-- 'zzlaws_internal_envelope_b1.FnMatchesLayoutItselfAndLiteralLayoutsExactly': WHATEVER THE INPUT: true; the input reads as it did. -/
def fnMatchesLayoutItselfAndLiteralLayoutsExactlySpec : ChangeSpec := { name := "fnMatchesLayoutItselfAndLiteralLayoutsExactly", fn := fun _ => fun
  | [d1, d2] => { results := [.lit (.bool true)], args := [d1, d2] }
  | _ => none }
def fnMatchesLayoutItselfAndLiteralLayoutsExactlyRow : OpenClaim := { program := "qxb6602618a", sum := "f0ce01adc0d812e220dc10e8461d6238f8bbd8566a00e5a2092f893b0d0d5a87", func := "example.com/wayline/wayline/zzlaws_internal_envelope_b1.FnMatchesLayoutItselfAndLiteralLayoutsExactly", spec := "fnMatchesLayoutItselfAndLiteralLayoutsExactly", apart := false }
def FnMatchesLayoutItselfAndLiteralLayoutsExactlySaid : Prop := fnMatchesLayoutItselfAndLiteralLayoutsExactlyRow.holds Try.pinned (OpenSpec.ofChange fnMatchesLayoutItselfAndLiteralLayoutsExactlySpec)

/-- ITS FALSE NEIGHBOUR: 'it returns false'. Refute it at one input. -/
def fnMatchesLayoutItselfAndLiteralLayoutsExactlyWrong : ChangeSpec := { name := "fnMatchesLayoutItselfAndLiteralLayoutsExactly", fn := fun _ => fun
  | [d1, d2] => { results := [.lit (.bool false)], args := [d1, d2] }
  | _ => none }
def FnMatchesLayoutItselfAndLiteralLayoutsExactlyWrongFalsely : Prop := fnMatchesLayoutItselfAndLiteralLayoutsExactlyRow.holds Try.pinned (OpenSpec.ofChange fnMatchesLayoutItselfAndLiteralLayoutsExactlyWrong)

/-- 'zzlaws_internal_envelope_b1.FnValueEndAgainstModel': WHATEVER THE INPUT: true; the input reads as it did. -/
def fnValueEndAgainstModelSpec : ChangeSpec := { name := "fnValueEndAgainstModel", fn := fun _ => fun
  | [d1, d2] => { results := [.lit (.bool true)], args := [d1, d2] }
  | _ => none }
def fnValueEndAgainstModelRow : OpenClaim := { program := "qxb6602618a", sum := "f0ce01adc0d812e220dc10e8461d6238f8bbd8566a00e5a2092f893b0d0d5a87", func := "example.com/wayline/wayline/zzlaws_internal_envelope_b1.FnValueEndAgainstModel", spec := "fnValueEndAgainstModel", inPlace := ["internal/bytealg.IndexByte"], apart := false }
def FnValueEndAgainstModelSaid : Prop := fnValueEndAgainstModelRow.holds Try.pinned (OpenSpec.ofChange fnValueEndAgainstModelSpec)

/-- ITS FALSE NEIGHBOUR: 'it returns false'. Refute it at one input. -/
def fnValueEndAgainstModelWrong : ChangeSpec := { name := "fnValueEndAgainstModel", fn := fun _ => fun
  | [d1, d2] => { results := [.lit (.bool false)], args := [d1, d2] }
  | _ => none }
def FnValueEndAgainstModelWrongFalsely : Prop := fnValueEndAgainstModelRow.holds Try.pinned (OpenSpec.ofChange fnValueEndAgainstModelWrong)

/-- 'zzlaws_internal_envelope_b1.FnValueEndStaysInsideAndReadsNothingPastItsEnd': WHATEVER THE INPUT: true; the input reads as it did. -/
def fnValueEndStaysInsideAndReadsNothingPastItsEndSpec : ChangeSpec := { name := "fnValueEndStaysInsideAndReadsNothingPastItsEnd", fn := fun _ => fun
  | [d1, d2] => { results := [.lit (.bool true)], args := [d1, d2] }
  | _ => none }
def fnValueEndStaysInsideAndReadsNothingPastItsEndRow : OpenClaim := { program := "qxb6602618a", sum := "f0ce01adc0d812e220dc10e8461d6238f8bbd8566a00e5a2092f893b0d0d5a87", func := "example.com/wayline/wayline/zzlaws_internal_envelope_b1.FnValueEndStaysInsideAndReadsNothingPastItsEnd", spec := "fnValueEndStaysInsideAndReadsNothingPastItsEnd", inPlace := ["internal/bytealg.IndexByte"], apart := false }
def FnValueEndStaysInsideAndReadsNothingPastItsEndSaid : Prop := fnValueEndStaysInsideAndReadsNothingPastItsEndRow.holds Try.pinned (OpenSpec.ofChange fnValueEndStaysInsideAndReadsNothingPastItsEndSpec)

/-- ITS FALSE NEIGHBOUR: 'it returns false'. Refute it at one input. -/
def fnValueEndStaysInsideAndReadsNothingPastItsEndWrong : ChangeSpec := { name := "fnValueEndStaysInsideAndReadsNothingPastItsEnd", fn := fun _ => fun
  | [d1, d2] => { results := [.lit (.bool false)], args := [d1, d2] }
  | _ => none }
def FnValueEndStaysInsideAndReadsNothingPastItsEndWrongFalsely : Prop := fnValueEndStaysInsideAndReadsNothingPastItsEndRow.holds Try.pinned (OpenSpec.ofChange fnValueEndStaysInsideAndReadsNothingPastItsEndWrong)

end Rows
end Go.Proofs.Qxb6602618a
