/-
  No cell of these rows narrows 'for every input' (looked for: loops, veiled, ifaces, maps, wideKeys, modest, calm, conditions, laid).
  DERIVED. THE GIVEN ROWS OF THIS SEAT. 1 by the template 'for every input the law returns true; each argument reads behind the call as it read before'; 0 by the template 'total and deterministic' (their statements: Qxb6614595aTotals.lean).
  GIVEN WITH THE SEED: the statements are not yours to turn. If you find one false, say at which input.
  Laid BY PROGRAM, IN A SANDBOX (cutbox-rows.mjs): the forced cells as the released guide's own fill.sh prints them over the translation 0850503327b5bef5… (all of the seat's roots in one cut). By AI agents, Wed Nov 11 2026. No macro, syntax, notation, axiom, sorry.
-/
import Derived.Test.Qxb6614595aChecked
import GoSem.Claim
import GoSem.ClaimJoined
import GoSem.ClaimMapViews
import Derived.JoinedTies
import Derived.KernelRfl
namespace Go.Proofs.Qxb6614595a
/- THE CELL 'sum', in the pinned program and in every row, IS THE sha256 OF THE DUMP (.gsa) THAT Qxb6614595aProg.lean LOADS. Nothing in Lean hashes anything: it is a label: what it is worth is what the hold of that sum in a sandbox is worth. -/
noncomputable def Try.pinned : Pinned := { name := "qxb6614595a", sum := "0850503327b5bef575b7529d6835708bb7e282081f9911b84a24b962b403f3d4", checked := Try.checked }
namespace Rows
def none {H : Type} : Left H := { results := [], args := [] }

/-- 'zzlaws_internal_expr_b1.FnIsDigitIsTheDigitInterval': WHATEVER THE INPUT: true; the input reads as it did. -/
def fnIsDigitIsTheDigitIntervalSpec : ChangeSpec := { name := "fnIsDigitIsTheDigitInterval", fn := fun _ => fun
  | [d] => { results := [.lit (.bool true)], args := [d] }
  | _ => none }
def fnIsDigitIsTheDigitIntervalRow : OpenClaim := { program := "qxb6614595a", sum := "0850503327b5bef575b7529d6835708bb7e282081f9911b84a24b962b403f3d4", func := "example.com/wary-gate/wary-gate/zzlaws_internal_expr_b1.FnIsDigitIsTheDigitInterval", spec := "fnIsDigitIsTheDigitInterval", apart := false }
def FnIsDigitIsTheDigitIntervalSaid : Prop := fnIsDigitIsTheDigitIntervalRow.holds Try.pinned (OpenSpec.ofChange fnIsDigitIsTheDigitIntervalSpec)

/-- ITS FALSE NEIGHBOUR: 'it returns false'. Refute it at one input. -/
def fnIsDigitIsTheDigitIntervalWrong : ChangeSpec := { name := "fnIsDigitIsTheDigitInterval", fn := fun _ => fun
  | [d] => { results := [.lit (.bool false)], args := [d] }
  | _ => none }
def FnIsDigitIsTheDigitIntervalWrongFalsely : Prop := fnIsDigitIsTheDigitIntervalRow.holds Try.pinned (OpenSpec.ofChange fnIsDigitIsTheDigitIntervalWrong)

end Rows
end Go.Proofs.Qxb6614595a
