/-
  records.recordsEnd (function 39): the plain function 'lastG'.
-/
import Derived.Test.Qxb6000622aShelf
import Derived.Test.Qxb6000622aLast
import Derived.WalkKit
import Derived.WalkSpells
import Derived.KernelRfl
namespace Go.Proofs.Qxb6000622a
open Go.RowKit Plain

theorem getD_window (xs : List Int) (i e j : Nat) (h : i + j < e) : ((xs.take e).drop i).getD j 0 = xs.getD (i + j) 0 := by
  simp [List.getD, h]

/-- bytes.Count over the window i .. e of a row, at a quote. -/
theorem count_win (B o i e n b2 : Nat) (xs : List Int) (w : World) (hi : i ≤ e) (he : e ≤ xs.length)
    (hc : ∀ j, i + j < e → w.cell? ⟨B, o + j, none⟩ = some (.int .u8 (xs.getD (i + j) 0))) (hc2 : w.cell? ⟨b2, 0, none⟩ = some (.int .u8 34)) :
    Calls Try.prog 41 #[.slice (some ⟨B, o, none⟩) (e - i) n, .slice (some ⟨b2, 0, none⟩) 1 1] w fun r w' => r = .returned (.int .i64 ((quo xs e : Int) - (quo xs i : Int))) ∧ w' = w := by
  refine (Try.bytes_Count_one B o (e - i) n b2 0 1 ((xs.take e).drop i) 34 w (by simp; omega) (fun j hj => ?_) hc2).mono ?_
  · rw [hc j (by omega), getD_window xs i e j (by omega)]
  · rintro r w' ⟨rfl, rfl⟩
    refine ⟨ret_int ?_, rfl⟩
    have h := quo_window xs i e hi
    have e34 : (34 : Int).toNat.toUInt8 = 34 := by decide
    rw [e34, h]
    omega

set_option maxHeartbeats 400000 in
theorem rend_row (B n : Nat) (xs : List Int) (w : World) (hx : xs.length = n) (hn : n ≤ 1048576)
    (hc : ∀ i, i < n → w.cell? ⟨B, i, none⟩ = some (.int .u8 (xs.getD i 0))) :
    Calls Try.prog 39 #[.slice (some ⟨B, 0, none⟩) n n] w fun e w' => e = .returned (.int .i64 (lastG xs n)) ∧ Below w.heap.size w w' := by
  have hq0 := quo_zero xs
  have hca : ∀ o, ∀ j, 0 + j < n → (w.alloc o).cell? ⟨B, 0 + j, none⟩ = some (.int .u8 (xs.getD (0 + j) 0)) := fun o j hj => by
    rw [Nat.zero_add] at *
    exact cell_later ((Below.refl _ _).alloc (Nat.le_refl _) o) (hc j hj)
  go_enter Try.func39, Try.ntmps39
  go_wp2_with (go_at_call 41; refine (count_win B 0 0 n n _ xs _ (Nat.zero_le _) (by omega) (hca _) (by simp)).mono ?_; rintro e w' ⟨rfl, rfl⟩)
  clear hca hq0
  go_loopw [3, 4] (fun q t wr => ∃ e : Nat, e ≤ n ∧ t = .int .i64 e ∧ q = .int .i64 (quo xs e) ∧ lastG xs n = lastG xs e ∧ Below w.heap.size w wr) (fun _ t _ => (intOf t).toNat)
  case atStart => exact ⟨n, Nat.le_refl _, rfl, rfl, rfl, (Below.refl _ _).alloc (Nat.le_refl _) _⟩
  case round =>
    obtain ⟨e, he, rfl, rfl, hG, hbel⟩ := hrel
    have HG : Hid (lastG xs n = lastG xs e) := hG
    clear hG
    have hcr : ∀ i, i < e → wr.cell? ⟨B, 0 + i, none⟩ = some (.int .u8 (xs.getD i 0)) := fun i hi => by
      rw [Nat.zero_add]
      exact cell_later hbel (hc i (by omega))
    have hqe := quo_le xs e
    rcases lastIx_spec xs 10 e with ⟨h1, h2⟩ | ⟨i, hi, h1, h2, h3⟩
    · have HN : Hid (∀ j, j < e → xs.getD j 0 ≠ 10) := h2
      clear h2
      go_wp2_with (go_at_call 42; refine (last_row B 0 e n xs 10 _ (by omega) hcr).mono ?_; rintro e w' ⟨rfl, rfl⟩)
      go_ret
      refine ⟨ret_int ?_, hbel⟩
      rw [HG.out, lastG_none xs e HN.out]; rfl
    · have HN : Hid (lastG xs e = if quo xs i % 2 = 0 then i + 1 else lastG xs i) := lastG_back xs e i hi (by omega) h2 h3
      clear h2 h3
      have hwin := quo_window xs i e (by omega)
      have hqi : quo xs i ≤ quo xs e := by omega
      clear hwin
      have hca : ∀ o, ∀ j, i + j < e → (wr.alloc o).cell? ⟨B, i + j, none⟩ = some (.int .u8 (xs.getD (i + j) 0)) := fun o j hj => by
        have h := hcr (i + j) hj
        rw [Nat.zero_add] at h
        exact cell_later ((Below.refl _ _).alloc (Nat.le_refl _) o) h
      go_wp2_with (first
        | (go_at_call 42; refine (last_row B 0 e n xs 10 _ (by omega) hcr).mono ?_; rintro e w' ⟨rfl, rfl⟩)
        | (go_at_call 41; refine (count_win B i i e _ _ xs _ (by omega) (by omega) (hca _) (by simp)).mono ?_; rintro e w' ⟨rfl, rfl⟩))
      · have ht : (((quo xs e : Int) - ((quo xs e : Int) - (quo xs i : Int))) % 2 == 0) = true := by assumption
        go_ret
        refine ⟨ret_int ?_, hbel.alloc hbel.size _⟩
        rw [HG.out, HN.out, if_pos (by simp at ht; omega)]
        omega
      · have ht : (((quo xs e : Int) - ((quo xs e : Int) - (quo xs i : Int))) % 2 == 0) = false := by assumption
        go_roundw
        case rel =>
          refine ⟨i, by omega, rfl, by go_num, ?_, hbel.alloc hbel.size _⟩
          rw [HG.out, HN.out, if_neg (by simp at ht; omega)]
        case measure => simp [intOf]; omega

theorem rend_nil (w : World) : Calls Try.prog 39 #[.slice none 0 0] w fun e w' => e = .returned (.int .i64 0) ∧ Below w.heap.size w w' := by
  go_enter Try.func39, Try.ntmps39
  go_wp2_with (go_at_call 41; refine (Try.bytes_Count_one_nil _ 0 1 34 _ (by simp)).mono ?_; rintro e w' ⟨rfl, rfl⟩)
  go_loopw [3, 4] (fun q t wr => t = .int .i64 0 ∧ q = .int .i64 0 ∧ Below w.heap.size w wr) (fun _ t _ => (intOf t).toNat)
  case atStart => exact ⟨rfl, rfl, (Below.refl _ _).alloc (Nat.le_refl _) _⟩
  case round =>
    obtain ⟨rfl, rfl, hbel⟩ := hrel
    go_wp2_with (go_at_call 42; refine (last_nil _ _).mono ?_; rintro e w' ⟨rfl, rfl⟩)
    go_ret
    exact ⟨rfl, hbel⟩

theorem zz_row (B n : Nat) (xs : List Int) (w : World) (hx : xs.length = n) (hn : n ≤ 1048576)
    (hc : ∀ i, i < n → w.cell? ⟨B, i, none⟩ = some (.int .u8 (xs.getD i 0))) :
    Calls Try.prog 33 #[.slice (some ⟨B, 0, none⟩) n n] w fun e w' => e = .returned (.int .i64 (lastG xs n)) ∧ Below w.heap.size w w' := by
  go_enter Try.func33, Try.ntmps33
  go_wp2_with (go_at_call 39; refine (rend_row B n xs _ hx hn hc).mono ?_; rintro e w' ⟨rfl, hb⟩)
  go_ret
  exact ⟨rfl, hb⟩

theorem zz_nil (w : World) : Calls Try.prog 33 #[.slice none 0 0] w fun e w' => e = .returned (.int .i64 0) ∧ Below w.heap.size w w' := by
  go_enter Try.func33, Try.ntmps33
  go_wp2_with (go_at_call 39; refine (rend_nil _).mono ?_; rintro e w' ⟨rfl, hb⟩)
  go_ret
  exact ⟨rfl, hb⟩
end Go.Proofs.Qxb6000622a
