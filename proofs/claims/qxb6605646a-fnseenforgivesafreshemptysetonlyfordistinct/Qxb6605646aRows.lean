/-
  No cell of these rows narrows 'for every input' (looked for: loops, veiled, ifaces, maps, wideKeys, modest, calm, conditions, laid).
  DERIVED. THE GIVEN ROWS OF THIS SEAT. 1 by the template 'for every input the law returns true; each argument reads behind the call as it read before'; 0 by the template 'total and deterministic' (their statements: Qxb6605646aTotals.lean).
  GIVEN WITH THE SEED: the statements are not yours to turn. If you find one false, say at which input.
  Laid BY PROGRAM, IN A SANDBOX (cutbox-rows.mjs): the forced cells as the released guide's own fill.sh prints them over the translation f22d296cc3bce216… (all of the seat's roots in one cut). By AI agents, Wed Nov 11 2026. No macro, syntax, notation, axiom, sorry.
-/
import Derived.Test.Qxb6605646aChecked
import GoSem.Claim
import GoSem.ClaimJoined
import GoSem.ClaimMapViews
import Derived.JoinedTies
import Derived.KernelRfl
namespace Go.Proofs.Qxb6605646a
/- THE CELL 'sum', in the pinned program and in every row, IS THE sha256 OF THE DUMP (.gsa) THAT Qxb6605646aProg.lean LOADS. Nothing in Lean hashes anything: it is a label: what it is worth is what the hold of that sum in a sandbox is worth. -/
noncomputable def Try.pinned : Pinned := { name := "qxb6605646a", sum := "f22d296cc3bce2160b0f04f3383685d11f1b40ccce49695cd7da77170014b9de", checked := Try.checked }
namespace Rows
def none {H : Type} : Left H := { results := [], args := [] }

/-- 'zzlaws_internal_engine_b1.FnSeenForGivesAFreshEmptySetOnlyForDistinct': WHATEVER THE INPUT: true; the input reads as it did. -/
def fnSeenForGivesAFreshEmptySetOnlyForDistinctSpec : ChangeSpec := { name := "fnSeenForGivesAFreshEmptySetOnlyForDistinct", fn := fun _ => fun
  | [d1, d2] => { results := [.lit (.bool true)], args := [d1, d2] }
  | _ => none }
def fnSeenForGivesAFreshEmptySetOnlyForDistinctRow : OpenClaim := { program := "qxb6605646a", sum := "f22d296cc3bce2160b0f04f3383685d11f1b40ccce49695cd7da77170014b9de", func := "example.com/undolane/undolane/zzlaws_internal_engine_b1.FnSeenForGivesAFreshEmptySetOnlyForDistinct", spec := "fnSeenForGivesAFreshEmptySetOnlyForDistinct", apart := false }
def FnSeenForGivesAFreshEmptySetOnlyForDistinctSaid : Prop := fnSeenForGivesAFreshEmptySetOnlyForDistinctRow.holds Try.pinned (OpenSpec.ofChange fnSeenForGivesAFreshEmptySetOnlyForDistinctSpec)

/-- ITS FALSE NEIGHBOUR: 'it returns false'. Refute it at one input. -/
def fnSeenForGivesAFreshEmptySetOnlyForDistinctWrong : ChangeSpec := { name := "fnSeenForGivesAFreshEmptySetOnlyForDistinct", fn := fun _ => fun
  | [d1, d2] => { results := [.lit (.bool false)], args := [d1, d2] }
  | _ => none }
def FnSeenForGivesAFreshEmptySetOnlyForDistinctWrongFalsely : Prop := fnSeenForGivesAFreshEmptySetOnlyForDistinctRow.holds Try.pinned (OpenSpec.ofChange fnSeenForGivesAFreshEmptySetOnlyForDistinctWrong)

end Rows
end Go.Proofs.Qxb6605646a
