/-
  skipSeparators (28, 16) and valueEnd (29, 21) by contract.
-/
import Derived.Test.Qxb6000696aShelf
import Derived.Test.Qxb6000696aPlain
import Derived.WalkKit
import Derived.WalkSpells
import Derived.KernelRfl
namespace Go.Proofs.Qxb6000696a
open Go.RowKit Plain

theorem ret_int {k : IntKind} {a b : Int} (h : a = b) : Ending.returned (.int k a) = .returned (.int k b) := by rw [h]

theorem skip_row28 (B n c i : Nat) (xs : List Int) (w : World) (hx : xs.length = n) (hn : n ≤ 1048576) (hi : i ≤ n)
    (hc : ∀ i, i < n → w.cell? ⟨B, i, none⟩ = some (.int .u8 (xs.getD i 0))) :
    Calls Try.prog 28 #[.slice (some ⟨B, 0, none⟩) n c, .int .i64 i] w fun e w' => (∃ r : Nat, i ≤ r ∧ r ≤ n ∧ e = .returned (.int .i64 r)) ∧ w' = w := by
  go_enter Try.func28, Try.ntmps28
  go_wp2
  go_loop [1] (fun t => ∃ k : Nat, i ≤ k ∧ k ≤ n ∧ t = .int .i64 k) (fun t => n - (intOf t).toNat)
  case atStart => exact ⟨i, Nat.le_refl _, hi, rfl⟩
  case round =>
    obtain ⟨k, hk1, hk2, rfl⟩ := hrel
    by_cases hlt : k < n
    · have hck := hc k hlt
      go_wp2
      all_goals first
        | (go_ret; exact ⟨⟨k, hk1, hk2, rfl⟩, rfl⟩)
        | (go_round
           case rel => exact ⟨k + 1, by omega, by omega, by go_num⟩
           case measure => simp [intOf]; omega)
    · go_wp2
      go_ret
      exact ⟨⟨k, hk1, hk2, rfl⟩, rfl⟩

theorem skip_row (B n c i : Nat) (xs : List Int) (w : World) (hx : xs.length = n) (hn : n ≤ 1048576) (hi : i ≤ n)
    (hc : ∀ i, i < n → w.cell? ⟨B, i, none⟩ = some (.int .u8 (xs.getD i 0))) :
    Calls Try.prog 16 #[.slice (some ⟨B, 0, none⟩) n c, .int .i64 i] w fun e w' => (∃ r : Nat, i ≤ r ∧ r ≤ n ∧ e = .returned (.int .i64 r)) ∧ w' = w := by
  go_enter Try.func16, Try.ntmps16
  go_wp2_with (go_at_call 28; refine (skip_row28 B n c i xs _ hx hn hi hc).mono ?_; rintro e w' ⟨⟨r, h1, h2, rfl⟩, rfl⟩)
  go_ret
  exact ⟨⟨r, h1, h2, rfl⟩, rfl⟩

theorem skip_nil28 (w : World) : Calls Try.prog 28 #[.slice none 0 0, .int .i64 0] w fun e w' => e = .returned (.int .i64 0) ∧ w' = w := by
  go_enter Try.func28, Try.ntmps28
  go_wp2
  go_loop [1] (fun t => t = .int .i64 0) (fun _ => 0)
  case atStart => rfl
  case round =>
    subst hrel
    go_wp2
    go_ret
    exact ⟨rfl, rfl⟩

theorem skip_nil (w : World) : Calls Try.prog 16 #[.slice none 0 0, .int .i64 0] w fun e w' => e = .returned (.int .i64 0) ∧ w' = w := by
  go_enter Try.func16, Try.ntmps16
  go_wp2_with (go_at_call 28; refine (skip_nil28 _).mono ?_; rintro e w' ⟨rfl, rfl⟩)
  go_ret
  exact ⟨rfl, rfl⟩

/-- valueEnd at a string that opens at i. -/
theorem end_str29 (B n c i : Nat) (xs : List Int) (w : World) (hx : xs.length = n) (hn : n ≤ 1048576) (hi : i < n) (hq : xs.getD i 0 = 34)
    (hc : ∀ i, i < n → w.cell? ⟨B, i, none⟩ = some (.int .u8 (xs.getD i 0))) :
    Calls Try.prog 29 #[.slice (some ⟨B, 0, none⟩) n c, .int .i64 i] w fun e w' => e = .returned (.tuple #[.int .i64 (endNum xs i), .bool (endOk xs i)]) ∧ w' = w := by
  have hci := hc i hi
  rw [hq] at hci
  have HC : Hid (∀ i, i < n → w.cell? ⟨B, i, none⟩ = some (.int .u8 (xs.getD i 0))) := hc
  clear hc hq
  go_enter Try.func29, Try.ntmps29
  go_wp2
  go_loop [6] (fun t => ∃ j : Nat, i + 1 ≤ j ∧ j ≤ n + 1 ∧ At xs (i + 1) j ∧ t = .int .i64 j) (fun t => n + 1 - (intOf t).toNat)
  case atStart => exact ⟨i + 1, Nat.le_refl _, by omega, At_refl _ _, by go_num⟩
  case round =>
    obtain ⟨j, h1, h2, h3, rfl⟩ := hrel
    have H3 : Hid (At xs (i + 1) j) := h3
    clear h3
    by_cases hlt : j < n
    · have hcj := HC.out j hlt
      have HX : Hid (xs.getD j 0 = xs[j]'(by omega)) := (by simp [List.getD, show j < xs.length by omega] : xs.getD j 0 = xs[j]'(by omega))
      go_wp2
      · have h92 : (xs[j] == 92) = true := by assumption
        have A := At_esc H3.out h1 (by omega) (by rw [HX.out]; simpa using h92)
        go_round
        case rel => exact ⟨j + 2, by omega, by omega, A, by go_num⟩
        case measure => simp [intOf]; omega
      · have h34 : (xs[j] == 34) = true := by assumption
        have A := end_some (At_quote H3.out h1 (by omega) (by rw [HX.out]; simpa using h34))
        go_ret2
        refine ⟨?_, rfl⟩
        rw [A.1, A.2]
        have e : ((i + 1 + (j + 1 - (i + 1)) : Nat) : Int) = (j : Int) + 1 := by omega
        rw [e]; rfl
      · have h92 : (xs[j] == 92) = false := by assumption
        have h34 : (xs[j] == 34) = false := by assumption
        have A := At_step H3.out h1 (by omega) (by rw [HX.out]; simpa using h92) (by rw [HX.out]; simpa using h34)
        go_round
        case rel => exact ⟨j + 1, by omega, by omega, A, by go_num⟩
        case measure => simp [intOf]; omega
    · have HN := end_none (At_end H3.out (by omega))
      have H1 : Hid (endNum xs i = 0) := HN.1
      have H2 : Hid (endOk xs i = false) := HN.2
      clear HN
      go_wp2
      go_ret2
      exact ⟨by rw [H1.out, H2.out]; rfl, rfl⟩

/-- valueEnd where no string opens at i. -/
theorem end_other29 (B n c i : Nat) (xs : List Int) (w : World) (hx : xs.length = n) (hn : n ≤ 1048576) (hi : i < n) (hq : xs.getD i 0 ≠ 34)
    (hc : ∀ i, i < n → w.cell? ⟨B, i, none⟩ = some (.int .u8 (xs.getD i 0))) :
    Calls Try.prog 29 #[.slice (some ⟨B, 0, none⟩) n c, .int .i64 i] w fun e w' => (∃ r : Nat, i < r ∧ r ≤ n ∧ e = .returned (.tuple #[.int .i64 r, .bool true])) ∧ w' = w := by
  have hci := hc i hi
  have HC : Hid (∀ i, i < n → w.cell? ⟨B, i, none⟩ = some (.int .u8 (xs.getD i 0))) := hc
  obtain ⟨v, hv⟩ : ∃ v, v = xs.getD i 0 := ⟨_, rfl⟩
  rw [← hv] at hci hq
  clear hc hv
  have hb34 : (v == 34) = false := by simpa using hq
  clear hq
  have er : ((i + 1 : Nat) : Int) = (i : Int) + 1 := by omega
  have ER : Hid (((i + 1 : Nat) : Int) = (i : Int) + 1) := er
  clear er
  rcases (show v = 123 ∨ v = 91 ∨ (v ≠ 123 ∧ v ≠ 91) by omega) with rfl | rfl | ⟨g1, g2⟩
  · go_enter Try.func29, Try.ntmps29
    go_wp2
    go_ret2
    exact ⟨⟨i + 1, by omega, by omega, by rw [ER.out]; rfl⟩, rfl⟩
  · go_enter Try.func29, Try.ntmps29
    go_wp2
    go_ret2
    exact ⟨⟨i + 1, by omega, by omega, by rw [ER.out]; rfl⟩, rfl⟩
  · have hb123 : (v == 123) = false := by simpa using g1
    have hb91 : (v == 91) = false := by simpa using g2
    clear g1 g2
    go_enter Try.func29, Try.ntmps29
    go_wp2
    go_loop [7] (fun t => ∃ j : Nat, i + 1 ≤ j ∧ j ≤ n ∧ t = .int .i64 j) (fun t => n - (intOf t).toNat)
    case atStart => exact ⟨i + 1, Nat.le_refl _, by omega, by go_num⟩
    case round =>
      obtain ⟨j, h1, h2, rfl⟩ := hrel
      by_cases hlt : j < n
      · have hcj := HC.out j hlt
        go_wp2_with (go_at_call 30; refine (Try.strings_IndexByte _ _ _).mono ?_; rintro e w' ⟨rfl, rfl⟩)
        · go_round
          case rel => exact ⟨j + 1, by omega, by omega, by go_num⟩
          case measure => simp [intOf]; omega
        · go_ret2
          exact ⟨⟨j, by omega, by omega, rfl⟩, rfl⟩
      · go_wp2
        go_ret2
        exact ⟨⟨j, by omega, by omega, rfl⟩, rfl⟩

theorem end_str (B n c i : Nat) (xs : List Int) (w : World) (hx : xs.length = n) (hn : n ≤ 1048576) (hi : i < n) (hq : xs.getD i 0 = 34)
    (hc : ∀ i, i < n → w.cell? ⟨B, i, none⟩ = some (.int .u8 (xs.getD i 0))) :
    Calls Try.prog 21 #[.slice (some ⟨B, 0, none⟩) n c, .int .i64 i] w fun e w' => e = .returned (.tuple #[.int .i64 (endNum xs i), .bool (endOk xs i)]) ∧ w' = w := by
  go_enter Try.func21, Try.ntmps21
  go_wp2_with (go_at_call 29; refine (end_str29 B n c i xs _ hx hn hi hq hc).mono ?_; rintro e w' ⟨rfl, rfl⟩)
  go_ret2
  exact ⟨rfl, rfl⟩

theorem end_other (B n c i : Nat) (xs : List Int) (w : World) (hx : xs.length = n) (hn : n ≤ 1048576) (hi : i < n) (hq : xs.getD i 0 ≠ 34)
    (hc : ∀ i, i < n → w.cell? ⟨B, i, none⟩ = some (.int .u8 (xs.getD i 0))) :
    Calls Try.prog 21 #[.slice (some ⟨B, 0, none⟩) n c, .int .i64 i] w fun e w' => (∃ r : Nat, i < r ∧ r ≤ n ∧ e = .returned (.tuple #[.int .i64 r, .bool true])) ∧ w' = w := by
  go_enter Try.func21, Try.ntmps21
  go_wp2_with (go_at_call 29; refine (end_other29 B n c i xs _ hx hn hi hq hc).mono ?_; rintro e w' ⟨⟨r, h1, h2, rfl⟩, rfl⟩)
  go_ret2
  exact ⟨⟨r, h1, h2, rfl⟩, rfl⟩
end Go.Proofs.Qxb6000696a
