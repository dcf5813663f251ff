/-
  No cell of these rows narrows 'for every input' (looked for: loops, veiled, ifaces, maps, wideKeys, modest, calm, conditions, laid).
  DERIVED. THE GIVEN ROWS OF THIS SEAT. 1 by the template 'for every input the law returns true; each argument reads behind the call as it read before'; 0 by the template 'total and deterministic' (their statements: Qxb6618410aTotals.lean).
  GIVEN WITH THE SEED: the statements are not yours to turn. If you find one false, say at which input.
  Laid BY PROGRAM, IN A SANDBOX (cutbox-rows.mjs): the forced cells as the released guide's own fill.sh prints them over the translation 68d95d49c5cc6d96… (all of the seat's roots in one cut). By AI agents, Wed Nov 11 2026. No macro, syntax, notation, axiom, sorry.
-/
import Derived.Test.Qxb6618410aChecked
import GoSem.Claim
import GoSem.ClaimJoined
import GoSem.ClaimMapViews
import Derived.JoinedTies
import Derived.KernelRfl
namespace Go.Proofs.Qxb6618410a
/- THE CELL 'sum', in the pinned program and in every row, IS THE sha256 OF THE DUMP (.gsa) THAT Qxb6618410aProg.lean LOADS. Nothing in Lean hashes anything: it is a label: what it is worth is what the hold of that sum in a sandbox is worth. -/
noncomputable def Try.pinned : Pinned := { name := "qxb6618410a", sum := "68d95d49c5cc6d96db702fe42cb89afd56713ecb099c3a8ce5b602851c3eeade", checked := Try.checked }
namespace Rows
def none {H : Type} : Left H := { results := [], args := [] }

/-- 'zzlaws_internal_jsonbytes_b1.FnNumberIsMaximalMunch': WHATEVER THE INPUT: true; the input reads as it did. -/
def fnNumberIsMaximalMunchSpec : ChangeSpec := { name := "fnNumberIsMaximalMunch", fn := fun _ => fun
  | [d1, d2, d3] => { results := [.lit (.bool true)], args := [d1, d2, d3] }
  | _ => none }
def fnNumberIsMaximalMunchRow : OpenClaim := { program := "qxb6618410a", sum := "68d95d49c5cc6d96db702fe42cb89afd56713ecb099c3a8ce5b602851c3eeade", func := "example.com/causeway/causeway/zzlaws_internal_jsonbytes_b1.FnNumberIsMaximalMunch", spec := "fnNumberIsMaximalMunch", unfollowed := true, recurses := true, apart := false }
def FnNumberIsMaximalMunchSaid : Prop := fnNumberIsMaximalMunchRow.holds Try.pinned (OpenSpec.ofChange fnNumberIsMaximalMunchSpec)

/-- ITS FALSE NEIGHBOUR: 'it returns false'. Refute it at one input. -/
def fnNumberIsMaximalMunchWrong : ChangeSpec := { name := "fnNumberIsMaximalMunch", fn := fun _ => fun
  | [d1, d2, d3] => { results := [.lit (.bool false)], args := [d1, d2, d3] }
  | _ => none }
def FnNumberIsMaximalMunchWrongFalsely : Prop := fnNumberIsMaximalMunchRow.holds Try.pinned (OpenSpec.ofChange fnNumberIsMaximalMunchWrong)

end Rows
end Go.Proofs.Qxb6618410a
