/-
  No cell of these rows narrows 'for every input' (looked for: loops, veiled, ifaces, maps, wideKeys, modest, calm, conditions, laid).
  DERIVED. THE GIVEN ROWS OF THIS SEAT. 2 by the template 'for every input the law returns true; each argument reads behind the call as it read before'; 0 by the template 'total and deterministic' (their statements: Qxb6000882aTotals.lean).
  GIVEN WITH THE SEED: the statements are not yours to turn. If you find one false, say at which input.
  Laid BY PROGRAM, IN A SANDBOX (cutbox-rows.mjs): the forced cells as the released guide's own fill.sh prints them over the translation ec760921c667ec5d… (all of the seat's roots in one cut). By AI agents, Wed Nov 11 2026. No macro, syntax, notation, axiom, sorry.
-/
import Derived.Test.Qxb6000882aChecked
import GoSem.Claim
import GoSem.ClaimJoined
import GoSem.ClaimMapViews
import Derived.JoinedTies
import Derived.KernelRfl
namespace Go.Proofs.Qxb6000882a
/- THE CELL 'sum', in the pinned program and in every row, IS THE sha256 OF THE DUMP (.gsa) THAT Qxb6000882aProg.lean LOADS. Nothing in Lean hashes anything: it is a label: what it is worth is what the hold of that sum in a sandbox is worth. -/
noncomputable def Try.pinned : Pinned := { name := "qxb6000882a", sum := "ec760921c667ec5d8ee2ccc117d004ea2b7abda708b410cc61f1597b6066f3b8", checked := Try.checked }
namespace Rows
def none {H : Type} : Left H := { results := [], args := [] }

/-- 'zzlaws_internal_taskfile_b1.FnParsePlatformMatchesPortList': WHATEVER THE INPUT: true; the input reads as it did. -/
def fnParsePlatformMatchesPortListSpec : ChangeSpec := { name := "fnParsePlatformMatchesPortList", fn := fun _ => fun
  | [d] => { results := [.lit (.bool true)], args := [d] }
  | _ => none }
def fnParsePlatformMatchesPortListRow : OpenClaim := { program := "qxb6000882a", sum := "ec760921c667ec5d8ee2ccc117d004ea2b7abda708b410cc61f1597b6066f3b8", func := "example.com/viceroy/viceroy/zzlaws_internal_taskfile_b1.FnParsePlatformMatchesPortList", spec := "fnParsePlatformMatchesPortList", inPlace := ["internal/bytealg.IndexByteString", "internal/bytealg.IndexString"], named := ["internal/bytealg.MaxLen"], apart := false }
def FnParsePlatformMatchesPortListSaid : Prop := fnParsePlatformMatchesPortListRow.holds Try.pinned (OpenSpec.ofChange fnParsePlatformMatchesPortListSpec)

/-- ITS FALSE NEIGHBOUR: 'it returns false'. Refute it at one input. -/
def fnParsePlatformMatchesPortListWrong : ChangeSpec := { name := "fnParsePlatformMatchesPortList", fn := fun _ => fun
  | [d] => { results := [.lit (.bool false)], args := [d] }
  | _ => none }
def FnParsePlatformMatchesPortListWrongFalsely : Prop := fnParsePlatformMatchesPortListRow.holds Try.pinned (OpenSpec.ofChange fnParsePlatformMatchesPortListWrong)

/-- 'zzlaws_internal_taskfile_b1.FnParsePlatformRoundTrip': WHATEVER THE INPUT: true; the input reads as it did. -/
def fnParsePlatformRoundTripSpec : ChangeSpec := { name := "fnParsePlatformRoundTrip", fn := fun _ => fun
  | [d] => { results := [.lit (.bool true)], args := [d] }
  | _ => none }
def fnParsePlatformRoundTripRow : OpenClaim := { program := "qxb6000882a", sum := "ec760921c667ec5d8ee2ccc117d004ea2b7abda708b410cc61f1597b6066f3b8", func := "example.com/viceroy/viceroy/zzlaws_internal_taskfile_b1.FnParsePlatformRoundTrip", spec := "fnParsePlatformRoundTrip", inPlace := ["internal/bytealg.IndexByteString", "internal/bytealg.IndexString"], named := ["internal/bytealg.MaxLen"], apart := false }
def FnParsePlatformRoundTripSaid : Prop := fnParsePlatformRoundTripRow.holds Try.pinned (OpenSpec.ofChange fnParsePlatformRoundTripSpec)

/-- ITS FALSE NEIGHBOUR: 'it returns false'. Refute it at one input. -/
def fnParsePlatformRoundTripWrong : ChangeSpec := { name := "fnParsePlatformRoundTrip", fn := fun _ => fun
  | [d] => { results := [.lit (.bool false)], args := [d] }
  | _ => none }
def FnParsePlatformRoundTripWrongFalsely : Prop := fnParsePlatformRoundTripRow.holds Try.pinned (OpenSpec.ofChange fnParsePlatformRoundTripWrong)

end Rows
end Go.Proofs.Qxb6000882a
