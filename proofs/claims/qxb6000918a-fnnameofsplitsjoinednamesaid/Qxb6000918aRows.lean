/-
  No cell of these rows narrows 'for every input' (looked for: loops, veiled, ifaces, maps, wideKeys, modest, calm, conditions, laid).
  DERIVED. THE GIVEN ROWS OF THIS SEAT. 2 by the template 'for every input the law returns true; each argument reads behind the call as it read before'; 0 by the template 'total and deterministic' (their statements: Qxb6000918aTotals.lean).
  GIVEN WITH THE SEED: the statements are not yours to turn. If you find one false, say at which input.
  Laid BY PROGRAM, IN A SANDBOX (cutbox-rows.mjs): the forced cells as the released guide's own fill.sh prints them over the translation 91a014edcf493740… (all of the seat's roots in one cut). By AI agents, Wed Nov 11 2026. No macro, syntax, notation, axiom, sorry.
-/
import Derived.Test.Qxb6000918aChecked
import GoSem.Claim
import GoSem.ClaimJoined
import GoSem.ClaimMapViews
import Derived.JoinedTies
import Derived.KernelRfl
namespace Go.Proofs.Qxb6000918a
/- THE CELL 'sum', in the pinned program and in every row, IS THE sha256 OF THE DUMP (.gsa) THAT Qxb6000918aProg.lean LOADS. Nothing in Lean hashes anything: it is a label: what it is worth is what the hold of that sum in a sandbox is worth. -/
noncomputable def Try.pinned : Pinned := { name := "qxb6000918a", sum := "91a014edcf493740f00cbe4457d8f87887ea168761c5af06af667a17e5e7317b", checked := Try.checked }
namespace Rows
def none {H : Type} : Left H := { results := [], args := [] }

/-- 'zzlaws_root_b1.FnNameOfAgreesWithForwardScan': WHATEVER THE INPUT: true; the input reads as it did. -/
def fnNameOfAgreesWithForwardScanSpec : ChangeSpec := { name := "fnNameOfAgreesWithForwardScan", fn := fun _ => fun
  | [d] => { results := [.lit (.bool true)], args := [d] }
  | _ => none }
def fnNameOfAgreesWithForwardScanRow : OpenClaim := { program := "qxb6000918a", sum := "91a014edcf493740f00cbe4457d8f87887ea168761c5af06af667a17e5e7317b", func := "example.com/pawl/pawl/zzlaws_root_b1.FnNameOfAgreesWithForwardScan", spec := "fnNameOfAgreesWithForwardScan", inPlace := ["internal/bytealg.IndexByteString"], apart := false }
def FnNameOfAgreesWithForwardScanSaid : Prop := fnNameOfAgreesWithForwardScanRow.holds Try.pinned (OpenSpec.ofChange fnNameOfAgreesWithForwardScanSpec)

/-- ITS FALSE NEIGHBOUR: 'it returns false'. Refute it at one input. -/
def fnNameOfAgreesWithForwardScanWrong : ChangeSpec := { name := "fnNameOfAgreesWithForwardScan", fn := fun _ => fun
  | [d] => { results := [.lit (.bool false)], args := [d] }
  | _ => none }
def FnNameOfAgreesWithForwardScanWrongFalsely : Prop := fnNameOfAgreesWithForwardScanRow.holds Try.pinned (OpenSpec.ofChange fnNameOfAgreesWithForwardScanWrong)

/-- 'zzlaws_root_b1.FnNameOfSplitsJoinedName': WHATEVER THE INPUT: true; the input reads as it did. -/
def fnNameOfSplitsJoinedNameSpec : ChangeSpec := { name := "fnNameOfSplitsJoinedName", fn := fun _ => fun
  | [d1, d2] => { results := [.lit (.bool true)], args := [d1, d2] }
  | _ => none }
def fnNameOfSplitsJoinedNameRow : OpenClaim := { program := "qxb6000918a", sum := "91a014edcf493740f00cbe4457d8f87887ea168761c5af06af667a17e5e7317b", func := "example.com/pawl/pawl/zzlaws_root_b1.FnNameOfSplitsJoinedName", spec := "fnNameOfSplitsJoinedName", inPlace := ["internal/bytealg.IndexByteString"], apart := false }
def FnNameOfSplitsJoinedNameSaid : Prop := fnNameOfSplitsJoinedNameRow.holds Try.pinned (OpenSpec.ofChange fnNameOfSplitsJoinedNameSpec)

/-- ITS FALSE NEIGHBOUR: 'it returns false'. Refute it at one input. -/
def fnNameOfSplitsJoinedNameWrong : ChangeSpec := { name := "fnNameOfSplitsJoinedName", fn := fun _ => fun
  | [d1, d2] => { results := [.lit (.bool false)], args := [d1, d2] }
  | _ => none }
def FnNameOfSplitsJoinedNameWrongFalsely : Prop := fnNameOfSplitsJoinedNameRow.holds Try.pinned (OpenSpec.ofChange fnNameOfSplitsJoinedNameWrong)

end Rows
end Go.Proofs.Qxb6000918a
