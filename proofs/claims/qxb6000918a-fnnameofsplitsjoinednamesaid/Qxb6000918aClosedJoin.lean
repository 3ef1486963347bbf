/-
  The closed facts of the row of FnNameOfSplitsJoinedName, one declaration each: the program's head (a string of 208 signs) is read ONCE, over a variable program: so the kernel's memory stays small.
-/
import Derived.Test.Qxb6000918aRows
import Derived.WalkKit
import Derived.ProofKit
namespace Go.Proofs.Qxb6000918a.fnNameOfSplitsJoinedName

/-- The signs of the program's head. -/
def nums : List Nat := [104, 97, 114, 110, 101, 115, 115, 32, 98, 51, 56, 56, 56, 101, 57, 56, 57, 52, 54, 56, 57, 52, 55, 98, 52, 54, 57, 101, 52, 49, 100, 52, 101, 48, 102, 52, 48, 102, 48, 52, 48, 100, 55, 54, 54, 97, 102, 56, 99, 57, 52, 56, 57, 52, 97, 56, 49, 48, 50, 101, 56, 100, 53, 49, 101, 102, 101, 57, 56, 56, 51, 57, 32, 99, 117, 116, 32, 97, 116, 32, 101, 120, 97, 109, 112, 108, 101, 46, 99, 111, 109, 47, 112, 97, 119, 108, 47, 112, 97, 119, 108, 47, 122, 122, 108, 97, 119, 115, 95, 114, 111, 111, 116, 95, 98, 49, 46, 70, 110, 78, 97, 109, 101, 79, 102, 65, 103, 114, 101, 101, 115, 87, 105, 116, 104, 70, 111, 114, 119, 97, 114, 100, 83, 99, 97, 110, 32, 101, 120, 97, 109, 112, 108, 101, 46, 99, 111, 109, 47, 112, 97, 119, 108, 47, 112, 97, 119, 108, 47, 122, 122, 108, 97, 119, 115, 95, 114, 111, 111, 116, 95, 98, 49, 46, 70, 110, 78, 97, 109, 101, 79, 102, 83, 112, 108, 105, 116, 115, 74, 111, 105, 110, 101, 100, 78, 97, 109, 101]
/-- Its words behind the word 'cut'. -/
def rest : List (List Nat) := [[97, 116], [101, 120, 97, 109, 112, 108, 101, 46, 99, 111, 109, 47, 112, 97, 119, 108, 47, 112, 97, 119, 108, 47, 122, 122, 108, 97, 119, 115, 95, 114, 111, 111, 116, 95, 98, 49, 46, 70, 110, 78, 97, 109, 101, 79, 102, 65, 103, 114, 101, 101, 115, 87, 105, 116, 104, 70, 111, 114, 119, 97, 114, 100, 83, 99, 97, 110], [101, 120, 97, 109, 112, 108, 101, 46, 99, 111, 109, 47, 112, 97, 119, 108, 47, 112, 97, 119, 108, 47, 122, 122, 108, 97, 119, 115, 95, 114, 111, 111, 116, 95, 98, 49, 46, 70, 110, 78, 97, 109, 101, 79, 102, 83, 112, 108, 105, 116, 115, 74, 111, 105, 110, 101, 100, 78, 97, 109, 101]]

theorem and_mk {a b : Bool} (ha : a = true) (hb : b = true) : (a && b) = true := by rw [ha, hb]; rfl

theorem words_of {P : Program} {l : List Char} {ws : List (List Char)} (h : P.initOrder = String.ofList l) (hw : behindMainWord (wordsSigns l) = ws) : behindMainWord (wordsSigns P.initOrder.toList) = ws := by
  rw [h, String.toList_ofList]; exact hw
theorem make_of {P : Program} {r : List (List Char)} (h : behindMainWord (wordsSigns P.initOrder.toList) = ['c', 'u', 't'] :: r) : P.make = some .cut := by
  unfold Program.make; rw [h]; rfl
theorem lifts_of {P : Program} {r : List (List Char)} (h : behindMainWord (wordsSigns P.initOrder.toList) = ['c', 'u', 't'] :: r) : P.liftsFinal = false := by
  unfold Program.liftsFinal Program.headLifts; rw [h]; rfl
theorem may_of {P : Program} {r : List (List Char)} (h : behindMainWord (wordsSigns P.initOrder.toList) = ['c', 'u', 't'] :: r) (h1 : P.laysLater = false) (h2 : P.bearsReflect = false) (h3 : P.doorFits [] = true) : P.mayEnter = true := by
  have e : stripLifts liftWords (['c', 'u', 't'] :: r) = ([], ['c', 'u', 't'] :: r) := rfl
  unfold Program.mayEnter; rw [h]; dsimp only
  rw [e, h1, h2, h3]; rfl

theorem init_is : Try.pinned.checked.prog.initOrder = String.ofList (nums.map Char.ofNat) := by kernel_rfl
theorem words_are : behindMainWord (wordsSigns (nums.map Char.ofNat)) = ['c', 'u', 't'] :: rest.map (fun w => w.map Char.ofNat) := by kernel_rfl
theorem words : behindMainWord (wordsSigns Try.pinned.checked.prog.initOrder.toList) = ['c', 'u', 't'] :: rest.map (fun w => w.map Char.ofNat) := words_of init_is words_are
theorem later : Try.pinned.checked.prog.laysLater = false := by kernel_rfl
theorem reflect : Try.pinned.checked.prog.bearsReflect = false := by kernel_rfl
theorem door : Try.pinned.checked.prog.doorFits [] = true := by kernel_rfl
theorem may : Try.pinned.checked.prog.mayEnter = true := may_of words later reflect door
theorem lifts : (Rows.fnNameOfSplitsJoinedNameRow.lifted == Try.pinned.checked.prog.liftsFinal) = true := by
  have h := lifts_of words
  exact beq_iff_eq.2 h.symm
theorem make : (Try.pinned.checked.prog.make == some Rows.fnNameOfSplitsJoinedNameRow.make) = true := by
  have h := make_of words
  exact beq_iff_eq.2 h

theorem closed : joinedFacts Try.pinned.checked.prog 4 Try.f4 Rows.fnNameOfSplitsJoinedNameSpec Rows.fnNameOfSplitsJoinedNameRow = true := by
  unfold joinedFacts
  repeat' with_reducible refine and_mk ?_ ?_
  all_goals first
    | with_reducible exact may
    | with_reducible exact lifts
    | with_reducible exact make
    | (as_aux_lemma => kernel_rfl)
end Go.Proofs.Qxb6000918a.fnNameOfSplitsJoinedName
