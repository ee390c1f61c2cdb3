/-
  No cell of these rows narrows 'for every input' (looked for: loops, veiled, ifaces, maps, wideKeys, modest, calm, conditions, laid).
  DERIVED. THE GIVEN ROWS OF THIS SEAT. 6 by the template 'for every input the law returns true; each argument reads behind the call as it read before'; 0 by the template 'total and deterministic' (their statements: Qxb6600850aTotals.lean).
  GIVEN WITH THE SEED: the statements are not yours to turn. If you find one false, say at which input.
  Laid BY PROGRAM, IN A SANDBOX (cutbox-rows.mjs): the forced cells as the released guide's own fill.sh prints them over the translation 5150407337bb5921… (all of the seat's roots in one cut). By AI agents, Wed Nov 11 2026. No macro, syntax, notation, axiom, sorry.
-/
import Derived.Test.Qxb6600850aChecked
import GoSem.Claim
import GoSem.ClaimJoined
import GoSem.ClaimMapViews
import Derived.JoinedTies
import Derived.KernelRfl
namespace Go.Proofs.Qxb6600850a
/- THE CELL 'sum', in the pinned program and in every row, IS THE sha256 OF THE DUMP (.gsa) THAT Qxb6600850aProg.lean LOADS. Nothing in Lean hashes anything: it is a label: what it is worth is what the hold of that sum in a sandbox is worth. -/
noncomputable def Try.pinned : Pinned := { name := "qxb6600850a", sum := "5150407337bb5921c57ae6740ddd8e77c7256fa872985cb0cd4b46f4060f4b99", checked := Try.checked }
namespace Rows
def none {H : Type} : Left H := { results := [], args := [] }

/-- 'zzlaws_internal_quorum_b1.FnKidsIsFirstHeldMajorityFromTheStartChild': WHATEVER THE INPUT: true; the input reads as it did. -/
def fnKidsIsFirstHeldMajorityFromTheStartChildSpec : ChangeSpec := { name := "fnKidsIsFirstHeldMajorityFromTheStartChild", fn := fun _ => fun
  | [d1, d2, d3, d4, d5] => { results := [.lit (.bool true)], args := [d1, d2, d3, d4, d5] }
  | _ => none }
def fnKidsIsFirstHeldMajorityFromTheStartChildRow : OpenClaim := { program := "qxb6600850a", sum := "5150407337bb5921c57ae6740ddd8e77c7256fa872985cb0cd4b46f4060f4b99", func := "example.com/quorumnest/quorumnest/zzlaws_internal_quorum_b1.FnKidsIsFirstHeldMajorityFromTheStartChild", spec := "fnKidsIsFirstHeldMajorityFromTheStartChild", apart := false }
def FnKidsIsFirstHeldMajorityFromTheStartChildSaid : Prop := fnKidsIsFirstHeldMajorityFromTheStartChildRow.holds Try.pinned (OpenSpec.ofChange fnKidsIsFirstHeldMajorityFromTheStartChildSpec)

/-- ITS FALSE NEIGHBOUR: 'it returns false'. Refute it at one input. -/
def fnKidsIsFirstHeldMajorityFromTheStartChildWrong : ChangeSpec := { name := "fnKidsIsFirstHeldMajorityFromTheStartChild", fn := fun _ => fun
  | [d1, d2, d3, d4, d5] => { results := [.lit (.bool false)], args := [d1, d2, d3, d4, d5] }
  | _ => none }
def FnKidsIsFirstHeldMajorityFromTheStartChildWrongFalsely : Prop := fnKidsIsFirstHeldMajorityFromTheStartChildRow.holds Try.pinned (OpenSpec.ofChange fnKidsIsFirstHeldMajorityFromTheStartChildWrong)

/-- 'zzlaws_internal_quorum_b1.FnKidsMoreMarksKeepAMajority': WHATEVER THE INPUT: true; the input reads as it did. -/
def fnKidsMoreMarksKeepAMajoritySpec : ChangeSpec := { name := "fnKidsMoreMarksKeepAMajority", fn := fun _ => fun
  | [d1, d2, d3, d4, d5, d6] => { results := [.lit (.bool true)], args := [d1, d2, d3, d4, d5, d6] }
  | _ => none }
def fnKidsMoreMarksKeepAMajorityRow : OpenClaim := { program := "qxb6600850a", sum := "5150407337bb5921c57ae6740ddd8e77c7256fa872985cb0cd4b46f4060f4b99", func := "example.com/quorumnest/quorumnest/zzlaws_internal_quorum_b1.FnKidsMoreMarksKeepAMajority", spec := "fnKidsMoreMarksKeepAMajority", apart := false }
def FnKidsMoreMarksKeepAMajoritySaid : Prop := fnKidsMoreMarksKeepAMajorityRow.holds Try.pinned (OpenSpec.ofChange fnKidsMoreMarksKeepAMajoritySpec)

/-- ITS FALSE NEIGHBOUR: 'it returns false'. Refute it at one input. -/
def fnKidsMoreMarksKeepAMajorityWrong : ChangeSpec := { name := "fnKidsMoreMarksKeepAMajority", fn := fun _ => fun
  | [d1, d2, d3, d4, d5, d6] => { results := [.lit (.bool false)], args := [d1, d2, d3, d4, d5, d6] }
  | _ => none }
def FnKidsMoreMarksKeepAMajorityWrongFalsely : Prop := fnKidsMoreMarksKeepAMajorityRow.holds Try.pinned (OpenSpec.ofChange fnKidsMoreMarksKeepAMajorityWrong)

/-- 'zzlaws_internal_quorum_b1.FnKidsAnswerIsAHeldMajorityOrNil': WHATEVER THE INPUT: true; the input reads as it did. -/
def fnKidsAnswerIsAHeldMajorityOrNilSpec : ChangeSpec := { name := "fnKidsAnswerIsAHeldMajorityOrNil", fn := fun _ => fun
  | [d1, d2, d3, d4, d5] => { results := [.lit (.bool true)], args := [d1, d2, d3, d4, d5] }
  | _ => none }
def fnKidsAnswerIsAHeldMajorityOrNilRow : OpenClaim := { program := "qxb6600850a", sum := "5150407337bb5921c57ae6740ddd8e77c7256fa872985cb0cd4b46f4060f4b99", func := "example.com/quorumnest/quorumnest/zzlaws_internal_quorum_b1.FnKidsAnswerIsAHeldMajorityOrNil", spec := "fnKidsAnswerIsAHeldMajorityOrNil", apart := false }
def FnKidsAnswerIsAHeldMajorityOrNilSaid : Prop := fnKidsAnswerIsAHeldMajorityOrNilRow.holds Try.pinned (OpenSpec.ofChange fnKidsAnswerIsAHeldMajorityOrNilSpec)

/-- ITS FALSE NEIGHBOUR: 'it returns false'. Refute it at one input. -/
def fnKidsAnswerIsAHeldMajorityOrNilWrong : ChangeSpec := { name := "fnKidsAnswerIsAHeldMajorityOrNil", fn := fun _ => fun
  | [d1, d2, d3, d4, d5] => { results := [.lit (.bool false)], args := [d1, d2, d3, d4, d5] }
  | _ => none }
def FnKidsAnswerIsAHeldMajorityOrNilWrongFalsely : Prop := fnKidsAnswerIsAHeldMajorityOrNilRow.holds Try.pinned (OpenSpec.ofChange fnKidsAnswerIsAHeldMajorityOrNilWrong)

/-- 'zzlaws_internal_quorum_b1.FnReadIsTheReachedNodesThatAreTaken': WHATEVER THE INPUT: true; the input reads as it did. -/
def fnReadIsTheReachedNodesThatAreTakenSpec : ChangeSpec := { name := "fnReadIsTheReachedNodesThatAreTaken", fn := fun _ => fun
  | [d1, d2, d3, d4, d5] => { results := [.lit (.bool true)], args := [d1, d2, d3, d4, d5] }
  | _ => none }
def fnReadIsTheReachedNodesThatAreTakenRow : OpenClaim := { program := "qxb6600850a", sum := "5150407337bb5921c57ae6740ddd8e77c7256fa872985cb0cd4b46f4060f4b99", func := "example.com/quorumnest/quorumnest/zzlaws_internal_quorum_b1.FnReadIsTheReachedNodesThatAreTaken", spec := "fnReadIsTheReachedNodesThatAreTaken", recurses := true, apart := false }
def FnReadIsTheReachedNodesThatAreTakenSaid : Prop := fnReadIsTheReachedNodesThatAreTakenRow.holds Try.pinned (OpenSpec.ofChange fnReadIsTheReachedNodesThatAreTakenSpec)

/-- ITS FALSE NEIGHBOUR: 'it returns false'. Refute it at one input. -/
def fnReadIsTheReachedNodesThatAreTakenWrong : ChangeSpec := { name := "fnReadIsTheReachedNodesThatAreTaken", fn := fun _ => fun
  | [d1, d2, d3, d4, d5] => { results := [.lit (.bool false)], args := [d1, d2, d3, d4, d5] }
  | _ => none }
def FnReadIsTheReachedNodesThatAreTakenWrongFalsely : Prop := fnReadIsTheReachedNodesThatAreTakenRow.holds Try.pinned (OpenSpec.ofChange fnReadIsTheReachedNodesThatAreTakenWrong)

/-- 'zzlaws_internal_quorum_b1.FnReadGivesALiveReadQuorum': WHATEVER THE INPUT: true; the input reads as it did. -/
def fnReadGivesALiveReadQuorumSpec : ChangeSpec := { name := "fnReadGivesALiveReadQuorum", fn := fun _ => fun
  | [d1, d2, d3, d4, d5] => { results := [.lit (.bool true)], args := [d1, d2, d3, d4, d5] }
  | _ => none }
def fnReadGivesALiveReadQuorumRow : OpenClaim := { program := "qxb6600850a", sum := "5150407337bb5921c57ae6740ddd8e77c7256fa872985cb0cd4b46f4060f4b99", func := "example.com/quorumnest/quorumnest/zzlaws_internal_quorum_b1.FnReadGivesALiveReadQuorum", spec := "fnReadGivesALiveReadQuorum", recurses := true, apart := false }
def FnReadGivesALiveReadQuorumSaid : Prop := fnReadGivesALiveReadQuorumRow.holds Try.pinned (OpenSpec.ofChange fnReadGivesALiveReadQuorumSpec)

/-- ITS FALSE NEIGHBOUR: 'it returns false'. Refute it at one input. -/
def fnReadGivesALiveReadQuorumWrong : ChangeSpec := { name := "fnReadGivesALiveReadQuorum", fn := fun _ => fun
  | [d1, d2, d3, d4, d5] => { results := [.lit (.bool false)], args := [d1, d2, d3, d4, d5] }
  | _ => none }
def FnReadGivesALiveReadQuorumWrongFalsely : Prop := fnReadGivesALiveReadQuorumRow.holds Try.pinned (OpenSpec.ofChange fnReadGivesALiveReadQuorumWrong)

/-- 'zzlaws_internal_quorum_b1.FnReadTakesALiveHomeWhoseWayHeld': WHATEVER THE INPUT: true; the input reads as it did. -/
def fnReadTakesALiveHomeWhoseWayHeldSpec : ChangeSpec := { name := "fnReadTakesALiveHomeWhoseWayHeld", fn := fun _ => fun
  | [d1, d2, d3, d4, d5] => { results := [.lit (.bool true)], args := [d1, d2, d3, d4, d5] }
  | _ => none }
def fnReadTakesALiveHomeWhoseWayHeldRow : OpenClaim := { program := "qxb6600850a", sum := "5150407337bb5921c57ae6740ddd8e77c7256fa872985cb0cd4b46f4060f4b99", func := "example.com/quorumnest/quorumnest/zzlaws_internal_quorum_b1.FnReadTakesALiveHomeWhoseWayHeld", spec := "fnReadTakesALiveHomeWhoseWayHeld", recurses := true, apart := false }
def FnReadTakesALiveHomeWhoseWayHeldSaid : Prop := fnReadTakesALiveHomeWhoseWayHeldRow.holds Try.pinned (OpenSpec.ofChange fnReadTakesALiveHomeWhoseWayHeldSpec)

/-- ITS FALSE NEIGHBOUR: 'it returns false'. Refute it at one input. -/
def fnReadTakesALiveHomeWhoseWayHeldWrong : ChangeSpec := { name := "fnReadTakesALiveHomeWhoseWayHeld", fn := fun _ => fun
  | [d1, d2, d3, d4, d5] => { results := [.lit (.bool false)], args := [d1, d2, d3, d4, d5] }
  | _ => none }
def FnReadTakesALiveHomeWhoseWayHeldWrongFalsely : Prop := fnReadTakesALiveHomeWhoseWayHeldRow.holds Try.pinned (OpenSpec.ofChange fnReadTakesALiveHomeWhoseWayHeldWrong)

end Rows
end Go.Proofs.Qxb6600850a
