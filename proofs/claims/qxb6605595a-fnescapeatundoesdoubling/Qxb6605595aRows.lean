/-
  No cell of these rows narrows 'for every input' (looked for: loops, veiled, ifaces, maps, wideKeys, modest, calm, conditions, laid).
  DERIVED. THE GIVEN ROWS OF THIS SEAT. 1 by the template 'for every input the law returns true; each argument reads behind the call as it read before'; 0 by the template 'total and deterministic' (their statements: Qxb6605595aTotals.lean).
  GIVEN WITH THE SEED: the statements are not yours to turn. If you find one false, say at which input.
  Laid BY PROGRAM, IN A SANDBOX (cutbox-rows.mjs): the forced cells as the released guide's own fill.sh prints them over the translation 97c186fc45d09fea… (all of the seat's roots in one cut). By AI agents, Wed Nov 11 2026. No macro, syntax, notation, axiom, sorry.
-/
import Derived.Test.Qxb6605595aChecked
import GoSem.Claim
import GoSem.ClaimJoined
import GoSem.ClaimMapViews
import Derived.JoinedTies
import Derived.KernelRfl
namespace Go.Proofs.Qxb6605595a
/- THE CELL 'sum', in the pinned program and in every row, IS THE sha256 OF THE DUMP (.gsa) THAT Qxb6605595aProg.lean LOADS. Nothing in Lean hashes anything: it is a label: what it is worth is what the hold of that sum in a sandbox is worth. -/
noncomputable def Try.pinned : Pinned := { name := "qxb6605595a", sum := "97c186fc45d09feae9713176c973d0d3ba48e1c73d7f8ca859c37deac8477179", checked := Try.checked }
namespace Rows
def none {H : Type} : Left H := { results := [], args := [] }

/-- 'zzlaws_pkg_template_b1.FnEscapeAtUndoesDoubling': WHATEVER THE INPUT: true; the input reads as it did. -/
def fnEscapeAtUndoesDoublingSpec : ChangeSpec := { name := "fnEscapeAtUndoesDoubling", fn := fun _ => fun
  | [d1, d2] => { results := [.lit (.bool true)], args := [d1, d2] }
  | _ => none }
def fnEscapeAtUndoesDoublingRow : OpenClaim := { program := "qxb6605595a", sum := "97c186fc45d09feae9713176c973d0d3ba48e1c73d7f8ca859c37deac8477179", func := "example.com/fleetwright/fleetwright/zzlaws_pkg_template_b1.FnEscapeAtUndoesDoubling", spec := "fnEscapeAtUndoesDoubling", apart := false }
def FnEscapeAtUndoesDoublingSaid : Prop := fnEscapeAtUndoesDoublingRow.holds Try.pinned (OpenSpec.ofChange fnEscapeAtUndoesDoublingSpec)

/-- ITS FALSE NEIGHBOUR: 'it returns false'. Refute it at one input. -/
def fnEscapeAtUndoesDoublingWrong : ChangeSpec := { name := "fnEscapeAtUndoesDoubling", fn := fun _ => fun
  | [d1, d2] => { results := [.lit (.bool false)], args := [d1, d2] }
  | _ => none }
def FnEscapeAtUndoesDoublingWrongFalsely : Prop := fnEscapeAtUndoesDoublingRow.holds Try.pinned (OpenSpec.ofChange fnEscapeAtUndoesDoublingWrong)

end Rows
end Go.Proofs.Qxb6605595a
