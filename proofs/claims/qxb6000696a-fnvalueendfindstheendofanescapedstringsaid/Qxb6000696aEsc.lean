/-
  asciiEscape (26, 12) at the bytes that it documents.
-/
import Derived.Test.Qxb6000696aProg
import Derived.Test.Qxb6000696aPlain
import Derived.WalkKit
import Derived.WalkSpells
import Derived.KernelRfl
namespace Go.Proofs.Qxb6000696a
open Go.RowKit Plain

theorem conv6 (w : World) (a b c d e f : Int) :
    (convert 26 9 (.slice (some ⟨w.heap.size, 0, none⟩) 6 6)).run Try.prog (w.alloc (.cells #[.int .u8 a, .int .u8 b, .int .u8 c, .int .u8 d, .int .u8 e, .int .u8 f] 5)).drew =
      .ok (.string (strOfNums [a, b, c, d, e, f])) (w.alloc (.cells #[.int .u8 a, .int .u8 b, .int .u8 c, .int .u8 d, .int .u8 e, .int .u8 f] 5)).drew := by
  refine run_convert_bytes_arg _ 26 5 Try.underlying26 Try.underlying5 _ 0 6 6 [a, b, c, d, e, f] rfl (fun i hi => ?_) 9 Try.underlying9
  match i, hi with
  | 0, _ => simp
  | 1, _ => simp
  | 2, _ => simp
  | 3, _ => simp
  | 4, _ => simp
  | 5, _ => simp

/-- The numbers of a string's bytes. -/
def numsOf (st : ByteArray) : List Int := st.data.toList.map fun b => (b.toNat : Int)

theorem numsOf_length (st : ByteArray) : (numsOf st).length = st.size := by simp [numsOf]

theorem hex_ne (k : Nat) (h : k < 16) : ((⟨#[48, 49, 50, 51, 52, 53, 54, 55, 56, 57, 97, 98, 99, 100, 101, 102]⟩ : ByteArray)[k]'h).toNat ≠ 92 ∧ ((⟨#[48, 49, 50, 51, 52, 53, 54, 55, 56, 57, 97, 98, 99, 100, 101, 102]⟩ : ByteArray)[k]'h).toNat ≠ 34 := by
  have key : ∀ i : Fin 16, ((⟨#[48, 49, 50, 51, 52, 53, 54, 55, 56, 57, 97, 98, 99, 100, 101, 102]⟩ : ByteArray)[i.1]'(i.2)).toNat ≠ 92 ∧ ((⟨#[48, 49, 50, 51, 52, 53, 54, 55, 56, 57, 97, 98, 99, 100, 101, 102]⟩ : ByteArray)[i.1]'(i.2)).toNat ≠ 34 := by decide
  exact key ⟨k, h⟩

theorem six_ok (x y : UInt8) (hx : x.toNat ≠ 92 ∧ x.toNat ≠ 34) (hy : y.toNat ≠ 92 ∧ y.toNat ≠ 34) :
    EscOk (numsOf (strOfNums [92, 117, 48, 48, (x.toNat : Int), (y.toNat : Int)])) ∧ (strOfNums [92, 117, 48, 48, (x.toNat : Int), (y.toNat : Int)]).size ≤ 6 := by
  have e : numsOf (strOfNums [92, 117, 48, 48, (x.toNat : Int), (y.toNat : Int)]) = [92, 117, 48, 48, (x.toNat : Int), (y.toNat : Int)] := by
    simp [numsOf, strOfNums_data]
  rw [e, strOfNums_size]
  exact ⟨escOk_six (by omega) (by omega) (by omega) (by omega), Nat.le_refl _⟩

set_option maxHeartbeats 1000000 in
theorem esc_hex (c : Int) (w : World) (h0 : 0 ≤ c) (h1 : c < 32) (g1 : (c == 8) = false) (g2 : (c == 12) = false) (g3 : (c == 10) = false) (g4 : (c == 13) = false) (g5 : (c == 9) = false) :
    Calls Try.prog 26 #[.int .u8 c] w fun e w' => (∃ st : ByteArray, e = .returned (.string st) ∧ EscOk (numsOf st) ∧ st.size ≤ 6) ∧ Below w.heap.size w w' := by
  have hcv := conv6 w
  have g6 : (c == 34) = false := by simp; omega
  have g7 : (c == 92) = false := by simp; omega
  have b1 : 0 ≤ c / 16 := by omega
  have b2 : c / 16 < 16 := by omega
  have b3 : 0 ≤ c % 16 := by omega
  have b4 : c % 16 < 16 := by omega
  have K := six_ok _ _ (hex_ne (c / 16).toNat (by omega)) (hex_ne (c % 16).toNat (by omega))
  have HK : Hid _ := K
  clear K
  go_enter Try.func26, Try.ntmps26
  go_wp2
  go_region
  go_wp2
  go_ret
  exact ⟨⟨_, rfl, HK.out⟩, ((Below.refl _ _).alloc (Nat.le_refl _) _).drew⟩

/-- asciiEscape at a byte of its domain. -/
theorem esc26 (c : Int) (w : World) (h0 : 0 ≤ c) (h1 : c < 32 ∨ c = 34 ∨ c = 92) :
    Calls Try.prog 26 #[.int .u8 c] w fun e w' => (∃ st : ByteArray, e = .returned (.string st) ∧ EscOk (numsOf st) ∧ st.size ≤ 6) ∧ Below w.heap.size w w' := by
  by_cases hs : c = 34 ∨ c = 92 ∨ c = 8 ∨ c = 12 ∨ c = 10 ∨ c = 13 ∨ c = 9
  · clear h1
    rcases hs with rfl | rfl | rfl | rfl | rfl | rfl | rfl
    all_goals
      go_enter Try.func26, Try.ntmps26
      go_wp2
      go_ret
      exact ⟨⟨_, rfl, escOk_two _, by decide⟩, Below.refl _ _⟩
  · exact esc_hex c w h0 (by omega) (by simp; omega) (by simp; omega) (by simp; omega) (by simp; omega) (by simp; omega)

theorem esc12 (c : Int) (w : World) (h0 : 0 ≤ c) (h1 : c < 32 ∨ c = 34 ∨ c = 92) :
    Calls Try.prog 12 #[.int .u8 c] w fun e w' => (∃ st : ByteArray, e = .returned (.string st) ∧ EscOk (numsOf st) ∧ st.size ≤ 6) ∧ Below w.heap.size w w' := by
  go_enter Try.func12, Try.ntmps12
  go_wp2_with (go_at_call 26; refine (esc26 c _ h0 h1).mono ?_; rintro e w' ⟨⟨st, rfl, k1, k2⟩, hb⟩)
  go_ret
  exact ⟨⟨st, rfl, k1, k2⟩, hb⟩
end Go.Proofs.Qxb6000696a
