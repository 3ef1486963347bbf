/-
  internal/bytealg.LastIndexByte (function 47) and bytes.LastIndexByte (42) by contract.
-/
import Derived.Test.Qxb6000622aProg
import Derived.Test.Qxb6000622aPlain
import Derived.WalkKit
import Derived.WalkSpells
import Derived.KernelRfl
namespace Go.Proofs.Qxb6000622a
open Go.RowKit Plain

theorem last_nil47 (c : Int) (w : World) : Calls Try.prog 47 #[.slice none 0 0, .int .u8 c] w fun e w' => e = .returned (.int .i64 (-1)) ∧ w' = w := by
  go_enter Try.func47, Try.ntmps47
  go_wp2
  go_loop [5] (fun i => i = .int .i64 (-1)) (fun _ => 0)
  case atStart => rfl
  case round =>
    subst hrel
    go_wp2
    go_ret
    exact ⟨rfl, rfl⟩

theorem ret_int {k : IntKind} {a b : Int} (h : a = b) : Ending.returned (.int k a) = .returned (.int k b) := by rw [h]

theorem last_row47 (b o e cap : Nat) (xs : List Int) (c : Int) (w : World) (he : e ≤ 1048576)
    (hc : ∀ i, i < e → w.cell? ⟨b, o + i, none⟩ = some (.int .u8 (xs.getD i 0))) :
    Calls Try.prog 47 #[.slice (some ⟨b, o, none⟩) e cap, .int .u8 c] w fun r w' => r = .returned (.int .i64 (lastIx xs c e)) ∧ w' = w := by
  go_enter Try.func47, Try.ntmps47
  go_wp2
  go_loop [5] (fun i => (i = .int .i64 (-1) ∧ lastIx xs c e = -1) ∨ (∃ m : Nat, m < e ∧ i = .int .i64 m ∧ lastIx xs c e = lastIx xs c (m + 1))) (fun i => (intOf i + 1).toNat)
  case atStart =>
    by_cases h0 : e = 0
    · subst h0; exact .inl ⟨rfl, rfl⟩
    · exact .inr ⟨e - 1, by omega, by go_num, by rw [show e - 1 + 1 = e by omega]⟩
  case round =>
    rcases hrel with ⟨rfl, hx⟩ | ⟨m, hm, rfl, hx⟩
    · have HX : Hid (lastIx xs c e = -1) := hx
      clear hx
      go_wp2
      go_ret
      exact ⟨ret_int HX.out.symm, rfl⟩
    · have HX : Hid (lastIx xs c e = lastIx xs c (m + 1)) := hx
      clear hx
      have hcm := hc m hm
      by_cases hq : xs.getD m 0 = c
      · have HQ : Hid (xs.getD m 0 = c) := hq
        clear hq
        have hb : (xs[m]?.getD 0 == c) = true := by simpa using HQ.out
        go_wp2
        go_ret
        exact ⟨ret_int (by rw [HX.out, lastIx, if_pos HQ.out]), rfl⟩
      · have HQ : Hid (¬ xs.getD m 0 = c) := hq
        clear hq
        have hb : (xs[m]?.getD 0 == c) = false := by simpa using HQ.out
        go_wp2
        go_round
        case rel =>
          have hl : lastIx xs c e = lastIx xs c m := by rw [HX.out, lastIx, if_neg HQ.out]
          by_cases h0 : m = 0
          · subst h0; exact .inl ⟨by go_num, hl⟩
          · exact .inr ⟨m - 1, by omega, by go_num, by rw [hl, show m - 1 + 1 = m by omega]⟩
        case measure => simp [intOf]

theorem last_nil (c : Int) (w : World) : Calls Try.prog 42 #[.slice none 0 0, .int .u8 c] w fun e w' => e = .returned (.int .i64 (-1)) ∧ w' = w := by
  go_enter Try.func42, Try.ntmps42
  go_wp2_with (go_at_call 47; refine (last_nil47 _ _).mono ?_; rintro e w' ⟨rfl, rfl⟩)
  go_ret
  exact ⟨rfl, rfl⟩

theorem last_row (b o e cap : Nat) (xs : List Int) (c : Int) (w : World) (he : e ≤ 1048576)
    (hc : ∀ i, i < e → w.cell? ⟨b, o + i, none⟩ = some (.int .u8 (xs.getD i 0))) :
    Calls Try.prog 42 #[.slice (some ⟨b, o, none⟩) e cap, .int .u8 c] w fun r w' => r = .returned (.int .i64 (lastIx xs c e)) ∧ w' = w := by
  go_enter Try.func42, Try.ntmps42
  go_wp2_with (go_at_call 47; refine (last_row47 _ _ _ _ xs _ _ he hc).mono ?_; rintro e w' ⟨rfl, rfl⟩)
  go_ret
  exact ⟨rfl, rfl⟩
end Go.Proofs.Qxb6000622a
