/-
  The walk of the law FnWalkOfValueEndAndSkipSeparatorsAdvances (function 10).
-/
import Derived.WalkKit
import Derived.OpenShut
import Derived.Below
import Derived.Test.Qxb6000696aClone
import Derived.Test.Qxb6000696aWalks
namespace Go.Proofs.Qxb6000696a.fnWalkOfValueEndAndSkipSeparatorsAdvances
open Go.RowKit Plain
set_option linter.unusedVariables false

/-- WHAT THE WALK IS TOLD OF A SLICE OF INTEGERS THAT CAME IN: it is nil; or it leads to a row of 'cap' cells, the numbers 'zs' (the first 'len' are its elements, the rest its spare room), each fitting its kind. -/
def IsRow (k : IntKind) (w : World) (a : Option Addr) (len cap : Nat) (zs : List Int) : Prop :=
  (a = none ∧ len = 0 ∧ cap = 0 ∧ zs = []) ∨
  ∃ x, a = some x ∧ len ≤ cap ∧ cap ≤ maxLen ∧ zs.length = cap ∧ (∀ i, i < zs.length → w.cell? (x.add i) = some (.int k (zs.getD i 0))) ∧ ∀ n ∈ zs, (Lit.int k n).wf = true

theorem end_adv (B n i : Nat) (xs : List Int) (w : World) (hx : xs.length = n) (hn : n ≤ 1048576) (hi : i < n) (hq : xs.getD i 0 ≠ 34 ∨ ∃ m, strScan (xs.drop (i + 1)) = some m)
    (hc : ∀ i, i < n → w.cell? ⟨B, i, none⟩ = some (.int .u8 (xs.getD i 0))) :
    Calls Try.prog 21 #[.slice (some ⟨B, 0, none⟩) n n, .int .i64 i] w fun e w' => (∃ r : Nat, i < r ∧ r ≤ n ∧ e = .returned (.tuple #[.int .i64 r, .bool true])) ∧ w' = w := by
  by_cases h34 : xs.getD i 0 = 34
  · obtain ⟨m, hm⟩ := hq.resolve_left (fun h => h h34)
    refine (end_str B n n i xs w hx hn hi h34 hc).mono ?_
    rintro e w' ⟨rfl, rfl⟩
    have hb := strScan_bd _ _ _ (Nat.le_refl _) hm
    have he := end_some hm
    simp at hb
    exact ⟨⟨i + 1 + m, by omega, by omega, by rw [he.1, he.2]⟩, rfl⟩
  · exact end_other B n n i xs w hx hn hi h34 hc

theorem end_no (B n i : Nat) (xs : List Int) (w : World) (hx : xs.length = n) (hn : n ≤ 1048576) (hi : i < n) (h34 : xs.getD i 0 = 34) (hs : strScan (xs.drop (i + 1)) = none)
    (hc : ∀ i, i < n → w.cell? ⟨B, i, none⟩ = some (.int .u8 (xs.getD i 0))) :
    Calls Try.prog 21 #[.slice (some ⟨B, 0, none⟩) n n, .int .i64 i] w fun e w' => e = .returned (.tuple #[.int .i64 0, .bool false]) ∧ w' = w := by
  refine (end_str B n n i xs w hx hn hi h34 hc).mono ?_
  rintro e w' ⟨rfl, rfl⟩
  have he := end_none hs
  exact ⟨by rw [he.1, he.2]; rfl, rfl⟩

set_option maxHeartbeats 800000 in
theorem walk (a0 : Option Addr) (len0 cap0 : Nat) (z0 : List Int) (w : World) (w0 : IsRow .u8 w a0 len0 cap0 z0) :
    Calls Try.prog 10 #[.slice a0 len0 cap0] w fun e w' => e = .returned (.bool true) ∧ Below w.heap.size w w' := by
  rcases w0 with ⟨rfl, rfl, rfl, rfl⟩ | ⟨x, rfl, hl, hm, hz, hcell, hwz⟩
  · go_enter Try.func10, Try.ntmps10
    go_wp2_with (first
      | (go_at_call 15; refine (clone_nil _).mono ?_; rintro e w' ⟨rfl, rfl⟩)
      | (go_at_call 16; refine (skip_nil _).mono ?_; rintro e w' ⟨rfl, rfl⟩)
      | go_in)
    go_loop [3] (fun t => t = .int .i64 0) (fun _ => 0)
    case atStart => rfl
    case round =>
      subst hrel
      go_wp2
      go_ret
      exact ⟨rfl, Below.refl _ _⟩
  · by_cases hbig : (1048576 : Int) < (len0 : Int)
    · go_enter Try.func10, Try.ntmps10
      go_wp2
      go_ret
      exact ⟨rfl, Below.refl _ _⟩
    · have hxl : (z0.take len0).length = len0 := by simp; omega
      obtain ⟨xs, hxs⟩ : ∃ xs, xs = z0.take len0 := ⟨_, rfl⟩
      have HX : Hid (xs = z0.take len0) := hxs
      rw [← hxs] at hxl
      clear hxs hwz
      have hn : len0 ≤ 1048576 := by omega
      go_enter Try.func10, Try.ntmps10
      go_wp2_with (first
        | (go_at_call 15; refine (clone_row x len0 cap0 z0 _ hl hz (by omega) hcell).mono ?_; rintro e w1 ⟨rfl, hown, hbel, hsz⟩; rw [← HX.out] at hown; have hc : ∀ i, i < len0 → w1.cell? ⟨w.heap.size, i, none⟩ = some (.int .u8 (xs.getD i 0)) := (fun i hi => by rw [hown.cellAt i (by omega)]; simp [show i < xs.length by omega]); clear hown)
        | (go_at_call 16; refine (skip_row w.heap.size len0 len0 0 xs _ hxl hn (Nat.zero_le _) hc).mono ?_; rintro e w' ⟨⟨r, h1, h2, rfl⟩, rfl⟩; have g1 : decide ((r : Int) < 0) = false := (by simp); have g2 : decide (len0 < r) = false := (by simp; omega))
        | go_in)
      go_loop [3] (fun t => ∃ i : Nat, i ≤ len0 ∧ t = .int .i64 i) (fun t => len0 - (intOf t).toNat)
      case atStart => exact ⟨r, h2, rfl⟩
      case round =>
        clear h1 h2
        obtain ⟨i, hi, rfl⟩ := hrel
        by_cases hlt : i < len0
        · by_cases hq : xs.getD i 0 ≠ 34 ∨ ∃ m, strScan (xs.drop (i + 1)) = some m
          · have HQ : Hid (xs.getD i 0 ≠ 34 ∨ ∃ m, strScan (xs.drop (i + 1)) = some m) := hq
            clear hq
            go_wp2_with (first
              | (go_at_call 21; refine (end_adv w.heap.size len0 i xs _ hxl hn hlt HQ.out hc).mono ?_; rintro e w'' ⟨⟨r1, k1, k2, rfl⟩, rfl⟩)
              | (go_at_call 16; refine (skip_row w.heap.size len0 len0 r1 xs _ hxl hn k2 hc).mono ?_; rintro e w'' ⟨⟨r2, k3, k4, rfl⟩, rfl⟩))
            go_round
            case rel => exact ⟨r2, k4, rfl⟩
            case measure => simp [intOf]; omega
          · have h34 : xs.getD i 0 = 34 := by
              by_cases e : xs.getD i 0 = 34
              · exact e
              · exact absurd (.inl e) hq
            have hs : strScan (xs.drop (i + 1)) = none := by
              cases e : strScan (xs.drop (i + 1)) with
              | none => rfl
              | some m => exact absurd (.inr ⟨m, e⟩) hq
            have H34 : Hid (xs.getD i 0 = 34) := h34
            have HS : Hid (strScan (xs.drop (i + 1)) = none) := hs
            have hci := hc i hlt
            rw [h34] at hci
            have HC : Hid (∀ i, i < len0 → w'.cell? ⟨w.heap.size, i, none⟩ = some (.int .u8 (xs.getD i 0))) := hc
            clear hq h34 hs hc
            go_wp2_with (go_at_call 21; refine (end_no w.heap.size len0 i xs _ hxl hn hlt H34.out HS.out HC.out).mono ?_; rintro e w'' ⟨rfl, rfl⟩)
            go_ret
            exact ⟨rfl, hbel⟩
        · go_wp2
          go_ret
          obtain rfl : i = len0 := by omega
          refine ⟨?_, hbel⟩
          simp
end Go.Proofs.Qxb6000696a.fnWalkOfValueEndAndSkipSeparatorsAdvances
