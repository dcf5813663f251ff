/-
  No cell of these rows narrows 'for every input' (looked for: loops, veiled, ifaces, maps, wideKeys, modest, calm, conditions, laid).
  DERIVED. THE GIVEN ROWS OF THIS SEAT. 2 by the template 'for every input the law returns true; each argument reads behind the call as it read before'; 0 by the template 'total and deterministic' (their statements: Qxb6618439aTotals.lean).
  GIVEN WITH THE SEED: the statements are not yours to turn. If you find one false, say at which input.
  Laid BY PROGRAM, IN A SANDBOX (cutbox-rows.mjs): the forced cells as the released guide's own fill.sh prints them over the translation 8bd5bdf4e0b644e1… (all of the seat's roots in one cut). By AI agents, Wed Nov 11 2026. No macro, syntax, notation, axiom, sorry.
-/
import Derived.Test.Qxb6618439aChecked
import GoSem.Claim
import GoSem.ClaimJoined
import GoSem.ClaimMapViews
import Derived.JoinedTies
import Derived.KernelRfl
namespace Go.Proofs.Qxb6618439a
/- THE CELL 'sum', in the pinned program and in every row, IS THE sha256 OF THE DUMP (.gsa) THAT Qxb6618439aProg.lean LOADS. Nothing in Lean hashes anything: it is a label: what it is worth is what the hold of that sum in a sandbox is worth. -/
noncomputable def Try.pinned : Pinned := { name := "qxb6618439a", sum := "8bd5bdf4e0b644e1f2c49f5226eea4eb8bedf36bdffc65d1dc19bea20d09d1ef", checked := Try.checked }
namespace Rows
def none {H : Type} : Left H := { results := [], args := [] }

/-- 'zzlaws_internal_rangecode_b1.FnBitWithExactSettle': WHATEVER THE INPUT: true; the input reads as it did. -/
def fnBitWithExactSettleSpec : ChangeSpec := { name := "fnBitWithExactSettle", fn := fun _ => fun
  | [d1, d2, d3, d4, d5, d6, d7, d8] => { results := [.lit (.bool true)], args := [d1, d2, d3, d4, d5, d6, d7, d8] }
  | _ => none }
def fnBitWithExactSettleRow : OpenClaim := { program := "qxb6618439a", sum := "8bd5bdf4e0b644e1f2c49f5226eea4eb8bedf36bdffc65d1dc19bea20d09d1ef", func := "example.com/deltaweave/deltaweave/zzlaws_internal_rangecode_b1.FnBitWithExactSettle", spec := "fnBitWithExactSettle", apart := false }
def FnBitWithExactSettleSaid : Prop := fnBitWithExactSettleRow.holds Try.pinned (OpenSpec.ofChange fnBitWithExactSettleSpec)

/-- ITS FALSE NEIGHBOUR: 'it returns false'. Refute it at one input. -/
def fnBitWithExactSettleWrong : ChangeSpec := { name := "fnBitWithExactSettle", fn := fun _ => fun
  | [d1, d2, d3, d4, d5, d6, d7, d8] => { results := [.lit (.bool false)], args := [d1, d2, d3, d4, d5, d6, d7, d8] }
  | _ => none }
def FnBitWithExactSettleWrongFalsely : Prop := fnBitWithExactSettleRow.holds Try.pinned (OpenSpec.ofChange fnBitWithExactSettleWrong)

/-- 'zzlaws_internal_rangecode_b1.FnBitWithScriptKeepsExactNumber': WHATEVER THE INPUT: true; the input reads as it did. -/
def fnBitWithScriptKeepsExactNumberSpec : ChangeSpec := { name := "fnBitWithScriptKeepsExactNumber", fn := fun _ => fun
  | [d1, d2] => { results := [.lit (.bool true)], args := [d1, d2] }
  | _ => none }
def fnBitWithScriptKeepsExactNumberRow : OpenClaim := { program := "qxb6618439a", sum := "8bd5bdf4e0b644e1f2c49f5226eea4eb8bedf36bdffc65d1dc19bea20d09d1ef", func := "example.com/deltaweave/deltaweave/zzlaws_internal_rangecode_b1.FnBitWithScriptKeepsExactNumber", spec := "fnBitWithScriptKeepsExactNumber", apart := false }
def FnBitWithScriptKeepsExactNumberSaid : Prop := fnBitWithScriptKeepsExactNumberRow.holds Try.pinned (OpenSpec.ofChange fnBitWithScriptKeepsExactNumberSpec)

/-- ITS FALSE NEIGHBOUR: 'it returns false'. Refute it at one input. -/
def fnBitWithScriptKeepsExactNumberWrong : ChangeSpec := { name := "fnBitWithScriptKeepsExactNumber", fn := fun _ => fun
  | [d1, d2] => { results := [.lit (.bool false)], args := [d1, d2] }
  | _ => none }
def FnBitWithScriptKeepsExactNumberWrongFalsely : Prop := fnBitWithScriptKeepsExactNumberRow.holds Try.pinned (OpenSpec.ofChange fnBitWithScriptKeepsExactNumberWrong)

end Rows
end Go.Proofs.Qxb6618439a
