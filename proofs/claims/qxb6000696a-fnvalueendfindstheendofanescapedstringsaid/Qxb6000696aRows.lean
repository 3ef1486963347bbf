/-
  No cell of these rows narrows 'for every input' (looked for: loops, veiled, ifaces, maps, wideKeys, modest, calm, conditions, laid).
  DERIVED. THE GIVEN ROWS OF THIS SEAT. 8 by the template 'for every input the law returns true; each argument reads behind the call as it read before'; 0 by the template 'total and deterministic' (their statements: Qxb6000696aTotals.lean).
  GIVEN WITH THE SEED: the statements are not yours to turn. If you find one false, say at which input.
  Laid BY PROGRAM, IN A SANDBOX (cutbox-rows.mjs): the forced cells as the released guide's own fill.sh prints them over the translation 0aa92f36f1a9eca1… (all of the seat's roots in one cut). By AI agents, Wed Nov 11 2026. No macro, syntax, notation, axiom, sorry.
-/
import Derived.Test.Qxb6000696aChecked
import GoSem.Claim
import GoSem.ClaimJoined
import GoSem.ClaimMapViews
import Derived.JoinedTies
import Derived.KernelRfl
namespace Go.Proofs.Qxb6000696a
/- THE CELL 'sum', in the pinned program and in every row, IS THE sha256 OF THE DUMP (.gsa) THAT Qxb6000696aProg.lean LOADS. Nothing in Lean hashes anything: it is a label: what it is worth is what the hold of that sum in a sandbox is worth. -/
noncomputable def Try.pinned : Pinned := { name := "qxb6000696a", sum := "0aa92f36f1a9eca1408d2de95d87574762ccc1be2390a56a35de3b2b478ff52b", checked := Try.checked }
namespace Rows
def none {H : Type} : Left H := { results := [], args := [] }

/-- 'zzlaws_pkg_jsonio_b1.FnAsciiEscapeDecodesBack': WHATEVER THE INPUT: true; the input reads as it did. -/
def fnAsciiEscapeDecodesBackSpec : ChangeSpec := { name := "fnAsciiEscapeDecodesBack", fn := fun _ => fun
  | [d] => { results := [.lit (.bool true)], args := [d] }
  | _ => none }
def fnAsciiEscapeDecodesBackRow : OpenClaim := { program := "qxb6000696a", sum := "0aa92f36f1a9eca1408d2de95d87574762ccc1be2390a56a35de3b2b478ff52b", func := "example.com/tierline/tierline/zzlaws_pkg_jsonio_b1.FnAsciiEscapeDecodesBack", spec := "fnAsciiEscapeDecodesBack", apart := false }
def FnAsciiEscapeDecodesBackSaid : Prop := fnAsciiEscapeDecodesBackRow.holds Try.pinned (OpenSpec.ofChange fnAsciiEscapeDecodesBackSpec)

/-- ITS FALSE NEIGHBOUR: 'it returns false'. Refute it at one input. -/
def fnAsciiEscapeDecodesBackWrong : ChangeSpec := { name := "fnAsciiEscapeDecodesBack", fn := fun _ => fun
  | [d] => { results := [.lit (.bool false)], args := [d] }
  | _ => none }
def FnAsciiEscapeDecodesBackWrongFalsely : Prop := fnAsciiEscapeDecodesBackRow.holds Try.pinned (OpenSpec.ofChange fnAsciiEscapeDecodesBackWrong)

/-- 'zzlaws_pkg_jsonio_b1.FnAsciiEscapeIsInertInsideAString': WHATEVER THE INPUT: true; the input reads as it did. -/
def fnAsciiEscapeIsInertInsideAStringSpec : ChangeSpec := { name := "fnAsciiEscapeIsInertInsideAString", fn := fun _ => fun
  | [d] => { results := [.lit (.bool true)], args := [d] }
  | _ => none }
def fnAsciiEscapeIsInertInsideAStringRow : OpenClaim := { program := "qxb6000696a", sum := "0aa92f36f1a9eca1408d2de95d87574762ccc1be2390a56a35de3b2b478ff52b", func := "example.com/tierline/tierline/zzlaws_pkg_jsonio_b1.FnAsciiEscapeIsInertInsideAString", spec := "fnAsciiEscapeIsInertInsideAString", apart := false }
def FnAsciiEscapeIsInertInsideAStringSaid : Prop := fnAsciiEscapeIsInertInsideAStringRow.holds Try.pinned (OpenSpec.ofChange fnAsciiEscapeIsInertInsideAStringSpec)

/-- ITS FALSE NEIGHBOUR: 'it returns false'. Refute it at one input. -/
def fnAsciiEscapeIsInertInsideAStringWrong : ChangeSpec := { name := "fnAsciiEscapeIsInertInsideAString", fn := fun _ => fun
  | [d] => { results := [.lit (.bool false)], args := [d] }
  | _ => none }
def FnAsciiEscapeIsInertInsideAStringWrongFalsely : Prop := fnAsciiEscapeIsInertInsideAStringRow.holds Try.pinned (OpenSpec.ofChange fnAsciiEscapeIsInertInsideAStringWrong)

/-- 'zzlaws_pkg_jsonio_b1.FnSkipSeparatorsSpec': WHATEVER THE INPUT: true; the input reads as it did. -/
def fnSkipSeparatorsSpecSpec : ChangeSpec := { name := "fnSkipSeparatorsSpec", fn := fun _ => fun
  | [d1, d2] => { results := [.lit (.bool true)], args := [d1, d2] }
  | _ => none }
def fnSkipSeparatorsSpecRow : OpenClaim := { program := "qxb6000696a", sum := "0aa92f36f1a9eca1408d2de95d87574762ccc1be2390a56a35de3b2b478ff52b", func := "example.com/tierline/tierline/zzlaws_pkg_jsonio_b1.FnSkipSeparatorsSpec", spec := "fnSkipSeparatorsSpec", apart := false }
def FnSkipSeparatorsSpecSaid : Prop := fnSkipSeparatorsSpecRow.holds Try.pinned (OpenSpec.ofChange fnSkipSeparatorsSpecSpec)

/-- ITS FALSE NEIGHBOUR: 'it returns false'. Refute it at one input. -/
def fnSkipSeparatorsSpecWrong : ChangeSpec := { name := "fnSkipSeparatorsSpec", fn := fun _ => fun
  | [d1, d2] => { results := [.lit (.bool false)], args := [d1, d2] }
  | _ => none }
def FnSkipSeparatorsSpecWrongFalsely : Prop := fnSkipSeparatorsSpecRow.holds Try.pinned (OpenSpec.ofChange fnSkipSeparatorsSpecWrong)

/-- 'zzlaws_pkg_jsonio_b1.FnSkipSeparatorsMonotone': WHATEVER THE INPUT: true; the input reads as it did. -/
def fnSkipSeparatorsMonotoneSpec : ChangeSpec := { name := "fnSkipSeparatorsMonotone", fn := fun _ => fun
  | [d1, d2, d3] => { results := [.lit (.bool true)], args := [d1, d2, d3] }
  | _ => none }
def fnSkipSeparatorsMonotoneRow : OpenClaim := { program := "qxb6000696a", sum := "0aa92f36f1a9eca1408d2de95d87574762ccc1be2390a56a35de3b2b478ff52b", func := "example.com/tierline/tierline/zzlaws_pkg_jsonio_b1.FnSkipSeparatorsMonotone", spec := "fnSkipSeparatorsMonotone", apart := false }
def FnSkipSeparatorsMonotoneSaid : Prop := fnSkipSeparatorsMonotoneRow.holds Try.pinned (OpenSpec.ofChange fnSkipSeparatorsMonotoneSpec)

/-- ITS FALSE NEIGHBOUR: 'it returns false'. Refute it at one input. -/
def fnSkipSeparatorsMonotoneWrong : ChangeSpec := { name := "fnSkipSeparatorsMonotone", fn := fun _ => fun
  | [d1, d2, d3] => { results := [.lit (.bool false)], args := [d1, d2, d3] }
  | _ => none }
def FnSkipSeparatorsMonotoneWrongFalsely : Prop := fnSkipSeparatorsMonotoneRow.holds Try.pinned (OpenSpec.ofChange fnSkipSeparatorsMonotoneWrong)

/-- 'zzlaws_pkg_jsonio_b1.FnValueEndFindsTheEndOfAnEscapedString': WHATEVER THE INPUT: true; the input reads as it did. -/
def fnValueEndFindsTheEndOfAnEscapedStringSpec : ChangeSpec := { name := "fnValueEndFindsTheEndOfAnEscapedString", fn := fun _ => fun
  | [d1, d2] => { results := [.lit (.bool true)], args := [d1, d2] }
  | _ => none }
def fnValueEndFindsTheEndOfAnEscapedStringRow : OpenClaim := { program := "qxb6000696a", sum := "0aa92f36f1a9eca1408d2de95d87574762ccc1be2390a56a35de3b2b478ff52b", func := "example.com/tierline/tierline/zzlaws_pkg_jsonio_b1.FnValueEndFindsTheEndOfAnEscapedString", spec := "fnValueEndFindsTheEndOfAnEscapedString", inPlace := ["internal/bytealg.IndexByteString"], apart := false }
def FnValueEndFindsTheEndOfAnEscapedStringSaid : Prop := fnValueEndFindsTheEndOfAnEscapedStringRow.holds Try.pinned (OpenSpec.ofChange fnValueEndFindsTheEndOfAnEscapedStringSpec)

/-- ITS FALSE NEIGHBOUR: 'it returns false'. Refute it at one input. -/
def fnValueEndFindsTheEndOfAnEscapedStringWrong : ChangeSpec := { name := "fnValueEndFindsTheEndOfAnEscapedString", fn := fun _ => fun
  | [d1, d2] => { results := [.lit (.bool false)], args := [d1, d2] }
  | _ => none }
def FnValueEndFindsTheEndOfAnEscapedStringWrongFalsely : Prop := fnValueEndFindsTheEndOfAnEscapedStringRow.holds Try.pinned (OpenSpec.ofChange fnValueEndFindsTheEndOfAnEscapedStringWrong)

/-- 'zzlaws_pkg_jsonio_b1.FnValueEndRefusesAnUnclosedString': WHATEVER THE INPUT: true; the input reads as it did. -/
def fnValueEndRefusesAnUnclosedStringSpec : ChangeSpec := { name := "fnValueEndRefusesAnUnclosedString", fn := fun _ => fun
  | [d] => { results := [.lit (.bool true)], args := [d] }
  | _ => none }
def fnValueEndRefusesAnUnclosedStringRow : OpenClaim := { program := "qxb6000696a", sum := "0aa92f36f1a9eca1408d2de95d87574762ccc1be2390a56a35de3b2b478ff52b", func := "example.com/tierline/tierline/zzlaws_pkg_jsonio_b1.FnValueEndRefusesAnUnclosedString", spec := "fnValueEndRefusesAnUnclosedString", inPlace := ["internal/bytealg.IndexByteString"], apart := false }
def FnValueEndRefusesAnUnclosedStringSaid : Prop := fnValueEndRefusesAnUnclosedStringRow.holds Try.pinned (OpenSpec.ofChange fnValueEndRefusesAnUnclosedStringSpec)

/-- ITS FALSE NEIGHBOUR: 'it returns false'. Refute it at one input. -/
def fnValueEndRefusesAnUnclosedStringWrong : ChangeSpec := { name := "fnValueEndRefusesAnUnclosedString", fn := fun _ => fun
  | [d] => { results := [.lit (.bool false)], args := [d] }
  | _ => none }
def FnValueEndRefusesAnUnclosedStringWrongFalsely : Prop := fnValueEndRefusesAnUnclosedStringRow.holds Try.pinned (OpenSpec.ofChange fnValueEndRefusesAnUnclosedStringWrong)

/-- 'zzlaws_pkg_jsonio_b1.FnValueEndTokenSpec': WHATEVER THE INPUT: true; the input reads as it did. -/
def fnValueEndTokenSpecSpec : ChangeSpec := { name := "fnValueEndTokenSpec", fn := fun _ => fun
  | [d1, d2] => { results := [.lit (.bool true)], args := [d1, d2] }
  | _ => none }
def fnValueEndTokenSpecRow : OpenClaim := { program := "qxb6000696a", sum := "0aa92f36f1a9eca1408d2de95d87574762ccc1be2390a56a35de3b2b478ff52b", func := "example.com/tierline/tierline/zzlaws_pkg_jsonio_b1.FnValueEndTokenSpec", spec := "fnValueEndTokenSpec", inPlace := ["internal/bytealg.IndexByteString"], apart := false }
def FnValueEndTokenSpecSaid : Prop := fnValueEndTokenSpecRow.holds Try.pinned (OpenSpec.ofChange fnValueEndTokenSpecSpec)

/-- ITS FALSE NEIGHBOUR: 'it returns false'. Refute it at one input. -/
def fnValueEndTokenSpecWrong : ChangeSpec := { name := "fnValueEndTokenSpec", fn := fun _ => fun
  | [d1, d2] => { results := [.lit (.bool false)], args := [d1, d2] }
  | _ => none }
def FnValueEndTokenSpecWrongFalsely : Prop := fnValueEndTokenSpecRow.holds Try.pinned (OpenSpec.ofChange fnValueEndTokenSpecWrong)

/-- 'zzlaws_pkg_jsonio_b1.FnWalkOfValueEndAndSkipSeparatorsAdvances': WHATEVER THE INPUT: true; the input reads as it did. -/
def fnWalkOfValueEndAndSkipSeparatorsAdvancesSpec : ChangeSpec := { name := "fnWalkOfValueEndAndSkipSeparatorsAdvances", fn := fun _ => fun
  | [d] => { results := [.lit (.bool true)], args := [d] }
  | _ => none }
def fnWalkOfValueEndAndSkipSeparatorsAdvancesRow : OpenClaim := { program := "qxb6000696a", sum := "0aa92f36f1a9eca1408d2de95d87574762ccc1be2390a56a35de3b2b478ff52b", func := "example.com/tierline/tierline/zzlaws_pkg_jsonio_b1.FnWalkOfValueEndAndSkipSeparatorsAdvances", spec := "fnWalkOfValueEndAndSkipSeparatorsAdvances", inPlace := ["internal/bytealg.IndexByteString"], apart := false }
def FnWalkOfValueEndAndSkipSeparatorsAdvancesSaid : Prop := fnWalkOfValueEndAndSkipSeparatorsAdvancesRow.holds Try.pinned (OpenSpec.ofChange fnWalkOfValueEndAndSkipSeparatorsAdvancesSpec)

/-- ITS FALSE NEIGHBOUR: 'it returns false'. Refute it at one input. -/
def fnWalkOfValueEndAndSkipSeparatorsAdvancesWrong : ChangeSpec := { name := "fnWalkOfValueEndAndSkipSeparatorsAdvances", fn := fun _ => fun
  | [d] => { results := [.lit (.bool false)], args := [d] }
  | _ => none }
def FnWalkOfValueEndAndSkipSeparatorsAdvancesWrongFalsely : Prop := fnWalkOfValueEndAndSkipSeparatorsAdvancesRow.holds Try.pinned (OpenSpec.ofChange fnWalkOfValueEndAndSkipSeparatorsAdvancesWrong)

end Rows
end Go.Proofs.Qxb6000696a
