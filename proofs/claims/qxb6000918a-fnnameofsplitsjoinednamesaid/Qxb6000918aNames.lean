/-
  nameOf (9) and ZZnameOf (6) by contract.
-/
import Derived.Test.Qxb6000918aShelf
import Derived.Lib.LastIndexByte
import Derived.Lib.IndexLaws
import Derived.Lib.Strings
import Derived.WalkKit
import Derived.WalkSpells
import Derived.KernelRfl
namespace Go.Proofs.Qxb6000918a
open Go.RowKit

theorem last_none (s : ByteArray) (h : Lib.indexByte s.data.toList 47 = -1) : Lib.lastIndexByte s 47 = -1 := by
  rcases Lib.lastIndexByte_spec s 47 with h' | ⟨i, hi, _, hc, _⟩
  · exact h'.1
  · exfalso
    have hl : s.data.toList.length = s.size := by simp
    have h1 := Lib.indexByte_none h i
    apply h1
    rw [List.getElem?_eq_getElem (by omega)]
    congr 1
    have e : s.data[i]! = s.data.toList[i] := by simp [hi]
    rw [e] at hc
    have e2 : s.data.toList[i].toNat = 47 := by omega
    exact UInt8.toNat_inj.1 e2

theorem byte_ix (s : ByteArray) (q : Int) (w : World) (h : Lib.indexByte s.data.toList 47 = q) : Calls Try.prog 10 #[.string s, .int .u8 47] w fun e w' => e = .returned (.int .i64 q) ∧ w' = w := by
  subst h; exact Try.strings_IndexByte s 47 w

theorem name9 (s : ByteArray) (w : World) (hs : s.size ≤ 4194304) :
    Calls Try.prog 9 #[.string s] w fun e w' => e = .returned (.agg #[.string s, .int .i64 (Lib.lastIndexByte s 47)]) ∧ Below w.heap.size w w' := by
  have hge := Lib.indexByte_ge s.data.toList 47
  by_cases h : Lib.indexByte s.data.toList 47 = -1
  · have HL : Hid (Lib.lastIndexByte s 47 = -1) := last_none s h
    have H : Hid (Lib.indexByte s.data.toList 47 = -1) := h
    clear h hge
    go_enter Try.func9, Try.ntmps9
    go_wp2_with (go_at_call 10; refine (byte_ix s (-1) _ H.out).mono ?_; rintro e w' ⟨rfl, rfl⟩)
    refine bodyPost_ret (v := .agg #[.string s, .int .i64 (-1)]) (by simp [results, Try.results9, go_sem]) rfl ⟨by rw [HL.out], ?_⟩
    exact (Below.refl _ _).alloc (Nat.le_refl _) _
  · obtain ⟨q, hq, hq0⟩ : ∃ q, Lib.indexByte s.data.toList 47 = q ∧ 0 ≤ q := ⟨_, rfl, by omega⟩
    have H : Hid (Lib.indexByte s.data.toList 47 = q) := hq
    clear hq h hge
    go_enter Try.func9, Try.ntmps9
    go_wp2_with (first
      | (go_at_call 10; refine (byte_ix s q _ H.out).mono ?_; rintro e w' ⟨rfl, rfl⟩)
      | (go_at_call 11; refine (Try.strings_LastIndexByte s 47 (by omega) _).mono ?_; rintro e w' ⟨rfl, rfl⟩))
    refine bodyPost_ret (v := .agg #[.string s, .int .i64 (Lib.lastIndexByte s 47)]) (by simp [results, Try.results9, go_sem]) rfl ⟨rfl, ?_⟩
    exact (Below.refl _ _).alloc (Nat.le_refl _) _

theorem zz6 (s : ByteArray) (w : World) (hs : s.size ≤ 4194304) :
    Calls Try.prog 6 #[.string s] w fun e w' => e = .returned (.tuple #[.string s, .int .i64 (Lib.lastIndexByte s 47)]) ∧ Below w.heap.size w w' := by
  go_enter Try.func6, Try.ntmps6
  go_wp2_with (go_at_call 9; refine (name9 s _ hs).mono ?_; rintro e w1 ⟨rfl, b1⟩)
  go_region
  go_wp2
  go_ret2
  exact ⟨rfl, (b1.alloc b1.size _).drew⟩
end Go.Proofs.Qxb6000918a
