/-
  No cell of these rows narrows 'for every input' (looked for: loops, veiled, ifaces, maps, wideKeys, modest, calm, conditions, laid).
  DERIVED. THE GIVEN ROWS OF THIS SEAT. 2 by the template 'for every input the law returns true; each argument reads behind the call as it read before'; 0 by the template 'total and deterministic' (their statements: Qxb6618390aTotals.lean).
  GIVEN WITH THE SEED: the statements are not yours to turn. If you find one false, say at which input.
  Laid BY PROGRAM, IN A SANDBOX (cutbox-rows.mjs): the forced cells as the released guide's own fill.sh prints them over the translation 2b992988597930bc… (all of the seat's roots in one cut). By AI agents, Wed Nov 11 2026. No macro, syntax, notation, axiom, sorry.
-/
import Derived.Test.Qxb6618390aChecked
import GoSem.Claim
import GoSem.ClaimJoined
import GoSem.ClaimMapViews
import Derived.JoinedTies
import Derived.KernelRfl
namespace Go.Proofs.Qxb6618390a
/- THE CELL 'sum', in the pinned program and in every row, IS THE sha256 OF THE DUMP (.gsa) THAT Qxb6618390aProg.lean LOADS. Nothing in Lean hashes anything: it is a label: what it is worth is what the hold of that sum in a sandbox is worth. -/
noncomputable def Try.pinned : Pinned := { name := "qxb6618390a", sum := "2b992988597930bcd11a3e4672230ec5db78cf0653c18de854a6280e4af7bc6e", checked := Try.checked }
namespace Rows
def none {H : Type} : Left H := { results := [], args := [] }

/-- 'zzlaws_internal_rdfc_b1.FnHexValueReadsLastEightDigits': WHATEVER THE INPUT: true; the input reads as it did. -/
def fnHexValueReadsLastEightDigitsSpec : ChangeSpec := { name := "fnHexValueReadsLastEightDigits", fn := fun _ => fun
  | [d] => { results := [.lit (.bool true)], args := [d] }
  | _ => none }
def fnHexValueReadsLastEightDigitsRow : OpenClaim := { program := "qxb6618390a", sum := "2b992988597930bcd11a3e4672230ec5db78cf0653c18de854a6280e4af7bc6e", func := "example.com/scopeward/scopeward/zzlaws_internal_rdfc_b1.FnHexValueReadsLastEightDigits", spec := "fnHexValueReadsLastEightDigits", apart := false }
def FnHexValueReadsLastEightDigitsSaid : Prop := fnHexValueReadsLastEightDigitsRow.holds Try.pinned (OpenSpec.ofChange fnHexValueReadsLastEightDigitsSpec)

/-- ITS FALSE NEIGHBOUR: 'it returns false'. Refute it at one input. -/
def fnHexValueReadsLastEightDigitsWrong : ChangeSpec := { name := "fnHexValueReadsLastEightDigits", fn := fun _ => fun
  | [d] => { results := [.lit (.bool false)], args := [d] }
  | _ => none }
def FnHexValueReadsLastEightDigitsWrongFalsely : Prop := fnHexValueReadsLastEightDigitsRow.holds Try.pinned (OpenSpec.ofChange fnHexValueReadsLastEightDigitsWrong)

/-- 'zzlaws_internal_rdfc_b1.FnHexValueSplitsAtAnyCut': WHATEVER THE INPUT: true; the input reads as it did. -/
def fnHexValueSplitsAtAnyCutSpec : ChangeSpec := { name := "fnHexValueSplitsAtAnyCut", fn := fun _ => fun
  | [d1, d2] => { results := [.lit (.bool true)], args := [d1, d2] }
  | _ => none }
def fnHexValueSplitsAtAnyCutRow : OpenClaim := { program := "qxb6618390a", sum := "2b992988597930bcd11a3e4672230ec5db78cf0653c18de854a6280e4af7bc6e", func := "example.com/scopeward/scopeward/zzlaws_internal_rdfc_b1.FnHexValueSplitsAtAnyCut", spec := "fnHexValueSplitsAtAnyCut", apart := false }
def FnHexValueSplitsAtAnyCutSaid : Prop := fnHexValueSplitsAtAnyCutRow.holds Try.pinned (OpenSpec.ofChange fnHexValueSplitsAtAnyCutSpec)

/-- ITS FALSE NEIGHBOUR: 'it returns false'. Refute it at one input. -/
def fnHexValueSplitsAtAnyCutWrong : ChangeSpec := { name := "fnHexValueSplitsAtAnyCut", fn := fun _ => fun
  | [d1, d2] => { results := [.lit (.bool false)], args := [d1, d2] }
  | _ => none }
def FnHexValueSplitsAtAnyCutWrongFalsely : Prop := fnHexValueSplitsAtAnyCutRow.holds Try.pinned (OpenSpec.ofChange fnHexValueSplitsAtAnyCutWrong)

end Rows
end Go.Proofs.Qxb6618390a
