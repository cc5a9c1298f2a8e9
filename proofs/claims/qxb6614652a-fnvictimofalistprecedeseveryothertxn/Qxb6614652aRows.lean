/-
  No cell of these rows narrows 'for every input' (looked for: loops, veiled, ifaces, maps, wideKeys, modest, calm, conditions, laid).
  DERIVED. THE GIVEN ROWS OF THIS SEAT. 3 by the template 'for every input the law returns true; each argument reads behind the call as it read before'; 0 by the template 'total and deterministic' (their statements: Qxb6614652aTotals.lean).
  GIVEN WITH THE SEED: the statements are not yours to turn. If you find one false, say at which input.
  Laid BY PROGRAM, IN A SANDBOX (cutbox-rows.mjs): the forced cells as the released guide's own fill.sh prints them over the translation 07d229574accb0ca… (all of the seat's roots in one cut). By AI agents, Wed Nov 11 2026. No macro, syntax, notation, axiom, sorry.
-/
import Derived.Test.Qxb6614652aChecked
import GoSem.Claim
import GoSem.ClaimJoined
import GoSem.ClaimMapViews
import Derived.JoinedTies
import Derived.KernelRfl
namespace Go.Proofs.Qxb6614652a
/- THE CELL 'sum', in the pinned program and in every row, IS THE sha256 OF THE DUMP (.gsa) THAT Qxb6614652aProg.lean LOADS. Nothing in Lean hashes anything: it is a label: what it is worth is what the hold of that sum in a sandbox is worth. -/
noncomputable def Try.pinned : Pinned := { name := "qxb6614652a", sum := "07d229574accb0ca4de7d754f8b20380151d725e28a860dbb62a4c52b8e834aa", checked := Try.checked }
namespace Rows
def none {H : Type} : Left H := { results := [], args := [] }

/-- 'zzlaws_internal_cluster_b1.FnMarkReliesUntilTheRecordReachesItsNumber': WHATEVER THE INPUT: true; the input reads as it did. -/
def fnMarkReliesUntilTheRecordReachesItsNumberSpec : ChangeSpec := { name := "fnMarkReliesUntilTheRecordReachesItsNumber", fn := fun _ => fun
  | [d1, d2, d3, d4, d5, d6] => { results := [.lit (.bool true)], args := [d1, d2, d3, d4, d5, d6] }
  | _ => none }
def fnMarkReliesUntilTheRecordReachesItsNumberRow : OpenClaim := { program := "qxb6614652a", sum := "07d229574accb0ca4de7d754f8b20380151d725e28a860dbb62a4c52b8e834aa", func := "example.com/knotwise/knotwise/zzlaws_internal_cluster_b1.FnMarkReliesUntilTheRecordReachesItsNumber", spec := "fnMarkReliesUntilTheRecordReachesItsNumber", apart := false }
def FnMarkReliesUntilTheRecordReachesItsNumberSaid : Prop := fnMarkReliesUntilTheRecordReachesItsNumberRow.holds Try.pinned (OpenSpec.ofChange fnMarkReliesUntilTheRecordReachesItsNumberSpec)

/-- ITS FALSE NEIGHBOUR: 'it returns false'. Refute it at one input. -/
def fnMarkReliesUntilTheRecordReachesItsNumberWrong : ChangeSpec := { name := "fnMarkReliesUntilTheRecordReachesItsNumber", fn := fun _ => fun
  | [d1, d2, d3, d4, d5, d6] => { results := [.lit (.bool false)], args := [d1, d2, d3, d4, d5, d6] }
  | _ => none }
def FnMarkReliesUntilTheRecordReachesItsNumberWrongFalsely : Prop := fnMarkReliesUntilTheRecordReachesItsNumberRow.holds Try.pinned (OpenSpec.ofChange fnMarkReliesUntilTheRecordReachesItsNumberWrong)

/-- 'zzlaws_internal_cluster_b1.FnMarksOfOneRecordRelyFromJustPastIt': WHATEVER THE INPUT: true; the input reads as it did. -/
def fnMarksOfOneRecordRelyFromJustPastItSpec : ChangeSpec := { name := "fnMarksOfOneRecordRelyFromJustPastIt", fn := fun _ => fun
  | [d1, d2, d3, d4, d5, d6, d7] => { results := [.lit (.bool true)], args := [d1, d2, d3, d4, d5, d6, d7] }
  | _ => none }
def fnMarksOfOneRecordRelyFromJustPastItRow : OpenClaim := { program := "qxb6614652a", sum := "07d229574accb0ca4de7d754f8b20380151d725e28a860dbb62a4c52b8e834aa", func := "example.com/knotwise/knotwise/zzlaws_internal_cluster_b1.FnMarksOfOneRecordRelyFromJustPastIt", spec := "fnMarksOfOneRecordRelyFromJustPastIt", apart := false }
def FnMarksOfOneRecordRelyFromJustPastItSaid : Prop := fnMarksOfOneRecordRelyFromJustPastItRow.holds Try.pinned (OpenSpec.ofChange fnMarksOfOneRecordRelyFromJustPastItSpec)

/-- ITS FALSE NEIGHBOUR: 'it returns false'. Refute it at one input. -/
def fnMarksOfOneRecordRelyFromJustPastItWrong : ChangeSpec := { name := "fnMarksOfOneRecordRelyFromJustPastIt", fn := fun _ => fun
  | [d1, d2, d3, d4, d5, d6, d7] => { results := [.lit (.bool false)], args := [d1, d2, d3, d4, d5, d6, d7] }
  | _ => none }
def FnMarksOfOneRecordRelyFromJustPastItWrongFalsely : Prop := fnMarksOfOneRecordRelyFromJustPastItRow.holds Try.pinned (OpenSpec.ofChange fnMarksOfOneRecordRelyFromJustPastItWrong)

/-- 'zzlaws_internal_cluster_b1.FnVictimOfAListPrecedesEveryOtherTxn': WHATEVER THE INPUT: true; the input reads as it did. -/
def fnVictimOfAListPrecedesEveryOtherTxnSpec : ChangeSpec := { name := "fnVictimOfAListPrecedesEveryOtherTxn", fn := fun _ => fun
  | [d] => { results := [.lit (.bool true)], args := [d] }
  | _ => none }
def fnVictimOfAListPrecedesEveryOtherTxnRow : OpenClaim := { program := "qxb6614652a", sum := "07d229574accb0ca4de7d754f8b20380151d725e28a860dbb62a4c52b8e834aa", func := "example.com/knotwise/knotwise/zzlaws_internal_cluster_b1.FnVictimOfAListPrecedesEveryOtherTxn", spec := "fnVictimOfAListPrecedesEveryOtherTxn", apart := false }
def FnVictimOfAListPrecedesEveryOtherTxnSaid : Prop := fnVictimOfAListPrecedesEveryOtherTxnRow.holds Try.pinned (OpenSpec.ofChange fnVictimOfAListPrecedesEveryOtherTxnSpec)

/-- ITS FALSE NEIGHBOUR: 'it returns false'. Refute it at one input. -/
def fnVictimOfAListPrecedesEveryOtherTxnWrong : ChangeSpec := { name := "fnVictimOfAListPrecedesEveryOtherTxn", fn := fun _ => fun
  | [d] => { results := [.lit (.bool false)], args := [d] }
  | _ => none }
def FnVictimOfAListPrecedesEveryOtherTxnWrongFalsely : Prop := fnVictimOfAListPrecedesEveryOtherTxnRow.holds Try.pinned (OpenSpec.ofChange fnVictimOfAListPrecedesEveryOtherTxnWrong)

end Rows
end Go.Proofs.Qxb6614652a
