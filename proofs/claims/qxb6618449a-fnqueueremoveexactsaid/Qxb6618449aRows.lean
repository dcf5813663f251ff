/-
  No cell of these rows narrows 'for every input' (looked for: loops, veiled, ifaces, maps, wideKeys, modest, calm, conditions, laid).
  DERIVED. THE GIVEN ROWS OF THIS SEAT. 1 by the template 'for every input the law returns true; each argument reads behind the call as it read before'; 0 by the template 'total and deterministic' (their statements: Qxb6618449aTotals.lean).
  GIVEN WITH THE SEED: the statements are not yours to turn. If you find one false, say at which input.
  Laid BY PROGRAM, IN A SANDBOX (cutbox-rows.mjs): the forced cells as the released guide's own fill.sh prints them over the translation 2dcfed36bbd34f4a… (all of the seat's roots in one cut). By AI agents, Wed Nov 11 2026. No macro, syntax, notation, axiom, sorry.
-/
import Derived.Test.Qxb6618449aChecked
import GoSem.Claim
import GoSem.ClaimJoined
import GoSem.ClaimMapViews
import Derived.JoinedTies
import Derived.KernelRfl
namespace Go.Proofs.Qxb6618449a
/- THE CELL 'sum', in the pinned program and in every row, IS THE sha256 OF THE DUMP (.gsa) THAT Qxb6618449aProg.lean LOADS. Nothing in Lean hashes anything: it is a label: what it is worth is what the hold of that sum in a sandbox is worth. -/
noncomputable def Try.pinned : Pinned := { name := "qxb6618449a", sum := "2dcfed36bbd34f4abee10c4b2b1bc17681fe1035fe36f8f2a233539695aa8cbb", checked := Try.checked }
namespace Rows
def none {H : Type} : Left H := { results := [], args := [] }

/-- 'zzlaws_internal_history_b1.FnQueueRemoveExact': WHATEVER THE INPUT: true; the input reads as it did. -/
def fnQueueRemoveExactSpec : ChangeSpec := { name := "fnQueueRemoveExact", fn := fun _ => fun
  | [d1, d2, d3, d4, d5, d6] => { results := [.lit (.bool true)], args := [d1, d2, d3, d4, d5, d6] }
  | _ => none }
def fnQueueRemoveExactRow : OpenClaim := { program := "qxb6618449a", sum := "2dcfed36bbd34f4abee10c4b2b1bc17681fe1035fe36f8f2a233539695aa8cbb", func := "example.com/chronolock/chronolock/zzlaws_internal_history_b1.FnQueueRemoveExact", spec := "fnQueueRemoveExact", apart := false }
def FnQueueRemoveExactSaid : Prop := fnQueueRemoveExactRow.holds Try.pinned (OpenSpec.ofChange fnQueueRemoveExactSpec)

/-- ITS FALSE NEIGHBOUR: 'it returns false'. Refute it at one input. -/
def fnQueueRemoveExactWrong : ChangeSpec := { name := "fnQueueRemoveExact", fn := fun _ => fun
  | [d1, d2, d3, d4, d5, d6] => { results := [.lit (.bool false)], args := [d1, d2, d3, d4, d5, d6] }
  | _ => none }
def FnQueueRemoveExactWrongFalsely : Prop := fnQueueRemoveExactRow.holds Try.pinned (OpenSpec.ofChange fnQueueRemoveExactWrong)

end Rows
end Go.Proofs.Qxb6618449a
