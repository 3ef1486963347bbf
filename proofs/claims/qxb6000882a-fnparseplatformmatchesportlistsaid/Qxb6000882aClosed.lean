/-
  The closed facts of the row of FnParsePlatformMatchesPortList, one declaration each: the program's head (a string of 247 signs) is read ONCE, over a variable program: so the kernel's memory stays small.
-/
import Derived.Test.Qxb6000882aRows
import Derived.WalkKit
import Derived.ProofKit
namespace Go.Proofs.Qxb6000882a.fnParsePlatformMatchesPortList

/-- The signs of the program's head. -/
def nums : List Nat := [104, 97, 114, 110, 101, 115, 115, 32, 99, 52, 102, 49, 56, 57, 56, 49, 52, 57, 54, 99, 53, 102, 99, 98, 50, 48, 55, 102, 102, 51, 52, 55, 55, 56, 55, 54, 97, 53, 57, 50, 99, 52, 98, 51, 102, 102, 55, 98, 57, 49, 50, 100, 57, 98, 55, 102, 97, 52, 48, 48, 55, 54, 49, 98, 48, 97, 55, 102, 99, 52, 54, 101, 32, 99, 117, 116, 32, 97, 116, 32, 101, 120, 97, 109, 112, 108, 101, 46, 99, 111, 109, 47, 118, 105, 99, 101, 114, 111, 121, 47, 118, 105, 99, 101, 114, 111, 121, 47, 122, 122, 108, 97, 119, 115, 95, 105, 110, 116, 101, 114, 110, 97, 108, 95, 116, 97, 115, 107, 102, 105, 108, 101, 95, 98, 49, 46, 70, 110, 80, 97, 114, 115, 101, 80, 108, 97, 116, 102, 111, 114, 109, 77, 97, 116, 99, 104, 101, 115, 80, 111, 114, 116, 76, 105, 115, 116, 32, 101, 120, 97, 109, 112, 108, 101, 46, 99, 111, 109, 47, 118, 105, 99, 101, 114, 111, 121, 47, 118, 105, 99, 101, 114, 111, 121, 47, 122, 122, 108, 97, 119, 115, 95, 105, 110, 116, 101, 114, 110, 97, 108, 95, 116, 97, 115, 107, 102, 105, 108, 101, 95, 98, 49, 46, 70, 110, 80, 97, 114, 115, 101, 80, 108, 97, 116, 102, 111, 114, 109, 82, 111, 117, 110, 100, 84, 114, 105, 112]
/-- Its words behind the word 'cut'. -/
def rest : List (List Nat) := [[97, 116], [101, 120, 97, 109, 112, 108, 101, 46, 99, 111, 109, 47, 118, 105, 99, 101, 114, 111, 121, 47, 118, 105, 99, 101, 114, 111, 121, 47, 122, 122, 108, 97, 119, 115, 95, 105, 110, 116, 101, 114, 110, 97, 108, 95, 116, 97, 115, 107, 102, 105, 108, 101, 95, 98, 49, 46, 70, 110, 80, 97, 114, 115, 101, 80, 108, 97, 116, 102, 111, 114, 109, 77, 97, 116, 99, 104, 101, 115, 80, 111, 114, 116, 76, 105, 115, 116], [101, 120, 97, 109, 112, 108, 101, 46, 99, 111, 109, 47, 118, 105, 99, 101, 114, 111, 121, 47, 118, 105, 99, 101, 114, 111, 121, 47, 122, 122, 108, 97, 119, 115, 95, 105, 110, 116, 101, 114, 110, 97, 108, 95, 116, 97, 115, 107, 102, 105, 108, 101, 95, 98, 49, 46, 70, 110, 80, 97, 114, 115, 101, 80, 108, 97, 116, 102, 111, 114, 109, 82, 111, 117, 110, 100, 84, 114, 105, 112]]

theorem and_mk {a b : Bool} (ha : a = true) (hb : b = true) : (a && b) = true := by rw [ha, hb]; rfl

theorem words_of {P : Program} {l : List Char} {ws : List (List Char)} (h : P.initOrder = String.ofList l) (hw : behindMainWord (wordsSigns l) = ws) : behindMainWord (wordsSigns P.initOrder.toList) = ws := by
  rw [h, String.toList_ofList]; exact hw
theorem make_of {P : Program} {r : List (List Char)} (h : behindMainWord (wordsSigns P.initOrder.toList) = ['c', 'u', 't'] :: r) : P.make = some .cut := by
  unfold Program.make; rw [h]; rfl
theorem lifts_of {P : Program} {r : List (List Char)} (h : behindMainWord (wordsSigns P.initOrder.toList) = ['c', 'u', 't'] :: r) : P.liftsFinal = false := by
  unfold Program.liftsFinal Program.headLifts; rw [h]; rfl
theorem may_of {P : Program} {r : List (List Char)} (h : behindMainWord (wordsSigns P.initOrder.toList) = ['c', 'u', 't'] :: r) (h1 : P.laysLater = false) (h2 : P.bearsReflect = false) (h3 : P.doorFits [] = true) : P.mayEnter = true := by
  have e : stripLifts liftWords (['c', 'u', 't'] :: r) = ([], ['c', 'u', 't'] :: r) := rfl
  unfold Program.mayEnter; rw [h]; dsimp only
  rw [e, h1, h2, h3]; rfl

theorem init_is : Try.pinned.checked.prog.initOrder = String.ofList (nums.map Char.ofNat) := by kernel_rfl
theorem words_are : behindMainWord (wordsSigns (nums.map Char.ofNat)) = ['c', 'u', 't'] :: rest.map (fun w => w.map Char.ofNat) := by kernel_rfl
theorem words : behindMainWord (wordsSigns Try.pinned.checked.prog.initOrder.toList) = ['c', 'u', 't'] :: rest.map (fun w => w.map Char.ofNat) := words_of init_is words_are
theorem later : Try.pinned.checked.prog.laysLater = false := by kernel_rfl
theorem reflect : Try.pinned.checked.prog.bearsReflect = false := by kernel_rfl
theorem door : Try.pinned.checked.prog.doorFits [] = true := by kernel_rfl
theorem may : Try.pinned.checked.prog.mayEnter = true := may_of words later reflect door
theorem lifts : (Rows.fnParsePlatformMatchesPortListRow.lifted == Try.pinned.checked.prog.liftsFinal) = true := by
  have h := lifts_of words
  exact beq_iff_eq.2 h.symm
theorem make : (Try.pinned.checked.prog.make == some Rows.fnParsePlatformMatchesPortListRow.make) = true := by
  have h := make_of words
  exact beq_iff_eq.2 h

theorem closed : joinedFacts Try.pinned.checked.prog 3 Try.f3 Rows.fnParsePlatformMatchesPortListSpec Rows.fnParsePlatformMatchesPortListRow = true := by
  unfold joinedFacts
  repeat' with_reducible refine and_mk ?_ ?_
  all_goals first
    | with_reducible exact may
    | with_reducible exact lifts
    | with_reducible exact make
    | (as_aux_lemma => kernel_rfl)
end Go.Proofs.Qxb6000882a.fnParsePlatformMatchesPortList
