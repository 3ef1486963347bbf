/-
  The walk of the law FnRecordsEndIsLastBalancedLineBreak (function 8).
-/
import Derived.WalkKit
import Derived.OpenShut
import Derived.Below
import Derived.Test.Qxb6000622aClone
import Derived.Test.Qxb6000622aEnd
namespace Go.Proofs.Qxb6000622a.fnRecordsEndIsLastBalancedLineBreak
open Go.RowKit
set_option linter.unusedVariables false

/-- WHAT THE WALK IS TOLD OF A SLICE OF INTEGERS THAT CAME IN: it is nil; or it leads to a row of 'cap' cells, the numbers 'zs' (the first 'len' are its elements, the rest its spare room), each fitting its kind. -/
def IsRow (k : IntKind) (w : World) (a : Option Addr) (len cap : Nat) (zs : List Int) : Prop :=
  (a = none ∧ len = 0 ∧ cap = 0 ∧ zs = []) ∨
  ∃ x, a = some x ∧ len ≤ cap ∧ cap ≤ maxLen ∧ zs.length = cap ∧ (∀ i, i < zs.length → w.cell? (x.add i) = some (.int k (zs.getD i 0))) ∧ ∀ n ∈ zs, (Lit.int k n).wf = true

theorem getD_bd {zs : List Int} (h : ∀ n ∈ zs, (Lit.int .u8 n).wf = true) (k : Nat) : 0 ≤ zs.getD k 0 ∧ zs.getD k 0 < 256 := by
  have := range_u8 h k
  rw [List.getD_eq_getElem?_getD]
  omega

/-- One step of the forward scan, over the plain functions. -/
theorem step_quote (xs : List Int) (k : Nat) (hk : k < xs.length) (hb : 0 ≤ xs.getD k 0 ∧ xs.getD k 0 < 256) (h : xs.getD k 0 = 34) :
    Plain.lastG xs (k + 1) = Plain.lastG xs k ∧ ((Plain.quo xs (k + 1) % 2 : Nat) : Int) = 1 - ((Plain.quo xs k % 2 : Nat) : Int) := by
  have hq := Plain.quo_succ xs k hk hb.1 hb.2
  rw [if_pos h] at hq
  refine ⟨?_, by omega⟩
  rw [Plain.lastG, if_neg (by omega)]

theorem step_break (xs : List Int) (k : Nat) (hk : k < xs.length) (hb : 0 ≤ xs.getD k 0 ∧ xs.getD k 0 < 256) (h : xs.getD k 0 = 10) :
    Plain.lastG xs (k + 1) = (if Plain.quo xs k % 2 = 0 then k + 1 else Plain.lastG xs k) ∧ Plain.quo xs (k + 1) = Plain.quo xs k := by
  have hq := Plain.quo_succ xs k hk hb.1 hb.2
  rw [if_neg (by omega)] at hq
  refine ⟨?_, hq⟩
  rw [Plain.lastG, hq]
  by_cases hp : Plain.quo xs k % 2 = 0
  · rw [if_pos ⟨h, hp⟩, if_pos hp]
  · rw [if_neg (fun q => hp q.2), if_neg hp]

theorem step_other (xs : List Int) (k : Nat) (hk : k < xs.length) (hb : 0 ≤ xs.getD k 0 ∧ xs.getD k 0 < 256) (h1 : xs.getD k 0 ≠ 34) (h2 : xs.getD k 0 ≠ 10) :
    Plain.lastG xs (k + 1) = Plain.lastG xs k ∧ Plain.quo xs (k + 1) = Plain.quo xs k := by
  have hq := Plain.quo_succ xs k hk hb.1 hb.2
  rw [if_neg h1] at hq
  refine ⟨?_, hq⟩
  rw [Plain.lastG, if_neg (fun q => h2 q.1)]

/-! ### STEP 1: THE WALK: the Go text returns true, AND WRITES NOTHING THAT WAS THERE: 'Below w.heap.size w w'' (Derived/Below.lean: '.refl', '.alloc', '.drew', '.setCell' at a new block, '.trans'). Open each 'IsRow' by 'rcases' AHEAD of 'go_enter'; part every test ahead of the walk. -/
theorem walk (a0 : Option Addr) (len0 cap0 : Nat) (z0 : List Int) (w : World) (w0 : IsRow .u8 w a0 len0 cap0 z0) :
    Calls Try.prog 8 #[.slice a0 len0 cap0] w fun e w' => e = .returned (.bool true) ∧ Below w.heap.size w w' := by
  rcases w0 with ⟨rfl, rfl, rfl, rfl⟩ | ⟨x, rfl, hl, hm, hz, hcell, hwz⟩
  · go_enter Try.func8, Try.ntmps8
    go_wp2_with (first
      | (go_at_call 32; refine (clone_nil _).mono ?_; rintro e w' ⟨rfl, rfl⟩)
      | (go_at_call 33; refine (zz_nil _).mono ?_; rintro e w' ⟨rfl, hb⟩)
      | go_in)
    go_loop [3, 4, 5] (fun p l i => p = .int .i64 0 ∧ l = .int .i64 0 ∧ i = .int .i64 0) (fun _ _ _ => 0)
    case atStart => exact ⟨rfl, rfl, rfl⟩
    case round =>
      obtain ⟨rfl, rfl, rfl⟩ := hrel
      go_wp2_with (go_at_call 33; refine (zz_nil _).mono ?_; rintro e w' ⟨rfl, hb⟩)
      go_ret
      exact ⟨rfl, hb⟩
  · by_cases hbig : (1048576 : Int) < (len0 : Int)
    · go_enter Try.func8, Try.ntmps8
      go_wp2
      go_ret
      exact ⟨rfl, Below.refl _ _⟩
    · go_enter Try.func8, Try.ntmps8
      go_wp2_with (first
        | (go_at_call 32; refine (clone_row x len0 cap0 z0 _ hl hz (by omega) hcell).mono ?_; rintro e w1 ⟨rfl, hown, hbel, hsz⟩)
        | go_in)
      have hxl : (z0.take len0).length = len0 := by simp; omega
      have hbd : ∀ k, 0 ≤ (z0.take len0).getD k 0 ∧ (z0.take len0).getD k 0 < 256 := fun k => getD_bd (fun n hn => hwz n (List.mem_of_mem_take hn)) k
      obtain ⟨xs, hxs⟩ : ∃ xs, xs = z0.take len0 := ⟨_, rfl⟩
      rw [← hxs] at hxl hbd hown
      clear hxs hwz hcell
      have hc : ∀ i, i < len0 → w1.cell? ⟨w.heap.size, i, none⟩ = some (.int .u8 (xs.getD i 0)) := fun i hi => by
        rw [hown.cellAt i (by omega)]
        simp [show i < xs.length by omega]
      clear hown
      go_loop [3, 4, 5] (fun p l i => ∃ k : Nat, k ≤ len0 ∧ i = .int .i64 k ∧ p = .int .i64 ((Plain.quo xs k % 2 : Nat) : Int) ∧ l = .int .i64 (Plain.lastG xs k)) (fun _ _ i => len0 - (intOf i).toNat)
      case atStart => exact ⟨0, Nat.zero_le _, rfl, by rw [Plain.quo_zero]; rfl, rfl⟩
      case round =>
        obtain ⟨k, hk, rfl, rfl, rfl⟩ := hrel
        by_cases hlt : k < len0
        · have hck := hc k hlt
          have hb := hbd k
          have hp : Plain.quo xs k % 2 < 2 := Nat.mod_lt _ (by omega)
          have hx0 : xs.getD k 0 = xs[k]'(by omega) := by simp [List.getD, show k < xs.length by omega]
          have HX : Hid (xs.getD k 0 = xs[k]'(by omega)) := hx0
          have HB : Hid (0 ≤ xs.getD k 0 ∧ xs.getD k 0 < 256) := hb
          clear hx0 hb
          go_wp2
          · have h1 : (xs[k] == 34) = true := by assumption
            have S := step_quote xs k (by omega) HB.out (by rw [HX.out]; simpa using h1)
            go_round
            case rel => exact ⟨k + 1, by omega, by go_num, by rw [S.2]; go_num, by rw [S.1]⟩
            case measure => simp [intOf]; omega
          · have h1 : xs[k] = 10 := by assumption
            have h2 : ((Plain.quo xs k : Int) % 2 == 0) = true := by assumption
            have S := step_break xs k (by omega) HB.out (by rw [HX.out]; exact h1)
            rw [if_pos (by simp at h2; omega)] at S
            go_round
            case rel => exact ⟨k + 1, by omega, by go_num, by rw [S.2]; go_num, by rw [S.1]; go_num⟩
            case measure => simp [intOf]; omega
          · have h1 : xs[k] = 10 := by assumption
            have h2 : ((Plain.quo xs k : Int) % 2 == 0) = false := by assumption
            have S := step_break xs k (by omega) HB.out (by rw [HX.out]; exact h1)
            rw [if_neg (by simp at h2; omega)] at S
            go_round
            case rel => exact ⟨k + 1, by omega, by go_num, by rw [S.2]; go_num, by rw [S.1]⟩
            case measure => simp [intOf]; omega
          · have h1 : (xs[k] == 34) = false := by assumption
            have h2 : ¬ xs[k] = 10 := by assumption
            have S := step_other xs k (by omega) HB.out (by rw [HX.out]; simpa using h1) (by rw [HX.out]; exact h2)
            go_round
            case rel => exact ⟨k + 1, by omega, by go_num, by rw [S.2]; go_num, by rw [S.1]⟩
            case measure => simp [intOf]; omega
        · go_wp2_with (go_at_call 33; refine (zz_row w.heap.size len0 xs _ hxl (by omega) hc).mono ?_; rintro e w' ⟨rfl, hb⟩)
          go_ret
          obtain rfl : k = len0 := by omega
          refine ⟨?_, hbel.trans (hb.mono (by omega))⟩
          simp

end Go.Proofs.Qxb6000622a.fnRecordsEndIsLastBalancedLineBreak
