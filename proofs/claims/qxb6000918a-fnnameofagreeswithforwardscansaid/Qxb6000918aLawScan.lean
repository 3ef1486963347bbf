/-
  The walk of the law FnNameOfAgreesWithForwardScan (function 3).
-/
import Derived.WalkKit
import Derived.OpenShut
import Derived.Below
import Derived.Test.Qxb6000918aNames
namespace Go.Proofs.Qxb6000918a.fnNameOfAgreesWithForwardScan
open Go.RowKit
set_option linter.unusedVariables false

theorem bang (s : ByteArray) (k : Nat) (h : k < s.size) : s.data[k]! = s[k] := by
  have h' : k < s.data.size := h
  exact getElem!_pos s.data k h'

set_option maxHeartbeats 400000 in
theorem walk (a0 : ByteArray) (w0 : a0.size ≤ maxLen) (w : World) :
    Calls Try.prog 3 #[.string a0] w fun e w' => e = .returned (.bool true) ∧ Below w.heap.size w w' := by
  by_cases hbig : (1048576 : Int) < (a0.size : Int)
  · unfold maxLen at w0
    go_enter Try.func3, Try.ntmps3
    go_wp2
    all_goals (go_ret; exact ⟨rfl, Below.refl _ _⟩)
  · clear w0
    have hs : a0.size ≤ 4194304 := by omega
    go_enter Try.func3, Try.ntmps3
    go_wp2_with (first
      | (go_at_call 6; refine (zz6 a0 _ hs).mono ?_; rintro e w1 ⟨rfl, bel⟩)
      | go_in)
    go_loop [5, 6] (fun t i => ∃ k : Nat, k ≤ a0.size ∧ i = .int .i64 k ∧ t = .int .i64 (Lib.lastIdx a0 47 k)) (fun _ i => a0.size - (intOf i).toNat)
    case atStart => exact ⟨0, Nat.zero_le _, rfl, rfl⟩
    case round =>
      obtain ⟨k, hk, rfl, rfl⟩ := hrel
      by_cases hlt : k < a0.size
      · have hbg := bang a0 k hlt
        have HB : Hid (a0.data[k]! = a0[k]) := hbg
        clear hbg
        by_cases hq : a0[k].toNat = 47
        · have HL : Hid (Lib.lastIdx a0 47 (k + 1) = k) := Lib.lastIdx_hit a0 47 k (by rw [HB.out, hq]; rfl)
          have he : (a0[k].toNat == 47) = true := by simpa using hq
          clear hq
          go_wp2
          go_round
          case rel => exact ⟨k + 1, by omega, by go_num, by rw [HL.out]⟩
          case measure => simp [intOf]; omega
        · have HL : Hid (Lib.lastIdx a0 47 (k + 1) = Lib.lastIdx a0 47 k) := Lib.lastIdx_miss a0 47 k (by rw [HB.out]; omega)
          have he : (a0[k].toNat == 47) = false := by simpa using hq
          clear hq
          go_wp2
          go_round
          case rel => exact ⟨k + 1, by omega, by go_num, by rw [HL.out]⟩
          case measure => simp [intOf]; omega
      · obtain rfl : k = a0.size := by omega
        go_wp2
        go_ret
        refine ⟨?_, bel⟩
        have e : (Lib.lastIndexByte a0 47 == Lib.lastIdx a0 47 a0.size) = true := by unfold Lib.lastIndexByte; exact beq_self_eq_true _
        rw [e]; rfl
end Go.Proofs.Qxb6000918a.fnNameOfAgreesWithForwardScan
