/-
  jsonioB1_clone (function 15) by its contract: a fresh row with the same bytes; nothing old has turned.
-/
import Derived.Test.Qxb6000696aProg
import Derived.WalkKit
import Derived.WalkSpells
import Derived.KernelRfl
namespace Go.Proofs.Qxb6000696a
open Go.RowKit

theorem info5 : (Try.prog.info? 5).map (fun i => (i.zero, i.size, i.bytes)) = some (some (.int .u8 0), 1, 1) := by kernel_rfl

theorem own_lt {w : World} {base : Nat} {e : TypeId} {size : Nat} {g n cap : Nat} {xs : List Value} (h : w.ownsRow base e size (.slice (some ⟨g, 0, none⟩) n cap) n xs) : g < w.heap.size := by
  rcases h.2 with ⟨h', _⟩ | ⟨g', cap', cur, h', _, hg, _⟩
  · simp at h'
  · simp only [Value.slice.injEq, Option.some.injEq, Addr.mk.injEq, and_true, true_and] at h'
    obtain ⟨rfl, rfl⟩ := h'
    exact lt_of_block hg

/-- What the new row holds when k bytes have been copied. -/
def half (zs : List Int) (len k : Nat) : List Value := (zs.take k).map (Value.int .u8) ++ List.replicate (len - k) (.int .u8 0)

theorem half_zero (zs : List Int) (len : Nat) : half zs len 0 = List.replicate len (.int .u8 0) := by simp [half]

theorem half_full (zs : List Int) (len : Nat) : half zs len len = (zs.take len).map (Value.int .u8) := by simp [half]

theorem half_step (zs : List Int) (len k : Nat) (hk : k < len) (hz : len ≤ zs.length) : (half zs len k).set k (.int .u8 (zs.getD k 0)) = half zs len (k + 1) := by
  unfold half
  have hl : ((zs.take k).map (Value.int .u8)).length = k := by simp; omega
  have e : len - k = (len - (k + 1)) + 1 := by omega
  have ht : zs.take (k + 1) = zs.take k ++ [zs.getD k 0] := by
    rw [List.take_succ_eq_append_getElem (by omega)]
    simp [List.getD, show k < zs.length by omega]
  rw [List.set_append_right _ _ (by omega), hl, Nat.sub_self, e, List.replicate_succ, List.set_cons_zero, ht, List.map_append, List.append_assoc]
  rfl

theorem half_length (zs : List Int) (len k : Nat) (hk : k ≤ len) (hz : len ≤ zs.length) : (half zs len k).length = len := by
  simp [half]; omega

theorem half_at (zs : List Int) (len k : Nat) (hk : k < len) (hz : len ≤ zs.length) : ∃ v, (half zs len k)[k]? = some v := by
  have := half_length zs len k (by omega) hz
  exact ⟨_, List.getElem?_eq_getElem (by omega)⟩

theorem clone_nil (w : World) : Calls Try.prog 15 #[.slice none 0 0] w fun e w' => e = .returned (.slice none 0 0) ∧ w' = w := by
  have q26 : ∀ (w : World) (a : Option Addr) (n c n' c' : Nat), (binOp .eql 26 (.slice a n c) (.slice none n' c')).run Try.prog w = .ok (.bool a.isNone) w := fun w a n c n' c' => Lib.run_eql_slice_nil w _ _ a n c n' c' Try.underlying26
  go_enter Try.func15, Try.ntmps15
  go_wp2
  go_ret
  exact ⟨rfl, rfl⟩

set_option maxHeartbeats 400000 in
theorem clone_row (x : Addr) (len cap : Nat) (zs : List Int) (w : World) (hl : len ≤ cap) (hz : zs.length = cap) (hsz : len ≤ 1048576)
    (hcell : ∀ i, i < zs.length → w.cell? (x.add i) = some (.int .u8 (zs.getD i 0))) :
    Calls Try.prog 15 #[.slice (some x) len cap] w fun e w' => e = .returned (.slice (some ⟨w.heap.size, 0, none⟩) len len) ∧
      w'.ownsRow w.heap.size 5 1 (.slice (some ⟨w.heap.size, 0, none⟩) len len) len ((zs.take len).map (Value.int .u8)) ∧ Below w.heap.size w w' ∧ w.heap.size < w'.heap.size := by
  obtain ⟨i0, hi, hz0, hz1, hz2⟩ := info_parts info5
  have q26 : ∀ (w : World) (a : Option Addr) (n c n' c' : Nat), (binOp .eql 26 (.slice a n c) (.slice none n' c')).run Try.prog w = .ok (.bool a.isNone) w := fun w a n c n' c' => Lib.run_eql_slice_nil w _ _ a n c n' c' Try.underlying26
  obtain ⟨b, off, spot⟩ := x
  have hsp : 0 < len → spot = none := fun h => by simpa [Addr.add] using World.cell?_spot (hcell 0 (by omega))
  have hcell' : ∀ i, i < len → w.cell? ⟨b, off + i, none⟩ = some (.int .u8 (zs.getD i 0)) := fun i hi => by
    have h := hcell i (by omega)
    have := hsp (by omega); subst this
    rwa [Addr.add_lit] at h
  have hbB : 0 < len → b < w.heap.size := fun h => World.block_lt_of_cell? w _ (hcell' 0 h)
  have hb2 : i0.bytes * len ≤ 281474976710656 := by rw [hz2]; omega
  have hb3 : len ≤ maxLen := by unfold maxLen; omega
  clear hcell
  go_enter Try.func15, Try.ntmps15
  go_wp2_with (at_make; refine wpList_make_full _ rfl _ _ 26 rfl w.heap.size 5 i0 (.int .u8 0) 1 Try.underlying26 hi hz0 hz1 _ _ _ _ len rfl rfl rfl rfl hb2 hb3 (Nat.le_refl _) ?_; intro w1 hown hgrow)
  go_loopw [4] (fun i wr => ∃ k : Nat, k ≤ len ∧ i = .int .i64 k ∧ wr.ownsRow w.heap.size 5 1 (.slice (some ⟨w.heap.size, 0, none⟩) len len) len (half zs len k) ∧ Below w.heap.size w wr ∧ w.heap.size < wr.heap.size)
    (fun i _ => len - (intOf i).toNat)
  case atStart =>
    refine ⟨0, Nat.zero_le _, rfl, ?_, (Below.refl _ _).grown hgrow (Nat.le_refl _) (fun k h => by cases h), own_lt hown⟩
    rw [half_zero]
    have e : (madeCells (Value.int .u8 0).cells (len * 1)).toList = List.replicate len (.int .u8 0) := by
      rw [Nat.mul_one]; exact toList_madeCells_one _ _
    rw [← e]; exact hown
  case round =>
    obtain ⟨k, hk, rfl, hown2, hbel, hsz2⟩ := hrel
    by_cases hlt : k < len
    · obtain rfl := hsp (by omega)
      have hb := hbB (by omega)
      have hcx : wr.cell? ⟨b, off + k, none⟩ = some (.int .u8 (zs.getD k 0)) := (hbel.cell hb).trans (hcell' k hlt)
      obtain ⟨v0, hv0⟩ := half_at zs len k hlt (by omega)
      have hco : wr.cell? ⟨w.heap.size, k, none⟩ = some v0 := (hown2.cellAt k (by omega)).trans hv0
      have hfo := hown2.frozenAt k
      have hst := hown2.stored k (.int .u8 (zs.getD k 0))
      rw [half_step zs len k hlt (by omega)] at hst
      have HS : Hid _ := hst
      clear hst hown2
      go_wp2
      go_roundw
      case rel => exact ⟨k + 1, by omega, by go_num, HS.out.1, hbel.setCell (Nat.le_refl _) _, by simpa using hsz2⟩
      case measure => simp [intOf]; omega
    · obtain rfl : k = len := by omega
      rw [half_full] at hown2
      go_wp2
      go_ret
      exact ⟨rfl, hown2, hbel, hsz2⟩
end Go.Proofs.Qxb6000696a
