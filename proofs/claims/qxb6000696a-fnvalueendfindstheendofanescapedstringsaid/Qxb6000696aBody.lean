/-
  jsonioB1_encodeBody (20): a fresh row whose text the scan passes over whole.
-/
import Derived.Test.Qxb6000696aEsc
import Derived.Test.Qxb6000696aClone
import Derived.WalkKit
import Derived.WalkSpells
import Derived.KernelRfl
namespace Go.Proofs.Qxb6000696a
open Go.RowKit Plain

/-- A slice of n bytes that is nil, or lies at the head of block B with cells xs. -/
def Held (w : World) (ao : Option Addr) (n : Nat) (xs : List Int) : Prop :=
  xs.length = n ∧ (∀ i, i < n → 0 ≤ xs.getD i 0) ∧ (0 < n → ∃ B, ao = some ⟨B, 0, none⟩ ∧ ∀ i, i < n → w.cell? ⟨B, i, none⟩ = some (.int .u8 (xs.getD i 0)))

theorem Held.later {w w' : World} {ao : Option Addr} {n : Nat} {xs : List Int} (h : Held w ao n xs) (hb : Below w.heap.size w w') : Held w' ao n xs :=
  ⟨h.1, h.2.1, fun hn => by
    obtain ⟨B, e, hc⟩ := h.2.2 hn
    exact ⟨B, e, fun i hi => cell_later hb (hc i hi)⟩⟩

/-- The row of the call's own: the slice at the head of block g, its k bytes E, room for cap. -/
def Own (B : Nat) (w : World) (g cap : Nat) (E : List Int) : Prop :=
  w.ownsRow B 5 1 (.slice (some ⟨g, 0, none⟩) E.length cap) E.length (E.map (Value.int .u8))

theorem Own.next {B : Nat} {w1 : World} {g cap : Nat} {E : List Int} {v : Int}
    (h : w1.ownsRow B 5 1 (.slice (some ⟨g, 0, none⟩) (E.length + 1) cap) (E.length + 1) (E.map (Value.int .u8) ++ [.int .u8 v])) : Own B w1 g cap (E ++ [v]) := by
  unfold Own
  simpa using h

theorem Own.form {B : Nat} {w : World} {g cap q : Nat} {E : List Int} (h : Own B w g cap E) (hq : E.length = q) :
    w.ownsRow B 5 1 (.slice (some ⟨g, 0, none⟩) q cap) q (E.map (Value.int .u8)) := by
  subst hq; exact h

theorem Own.of {B : Nat} {w : World} {g cap q : Nat} {E : List Int} {vs : List Value} (h : w.ownsRow B 5 1 (.slice (some ⟨g, 0, none⟩) q cap) q vs) (hq : E.length = q) (hv : E.map (Value.int .u8) = vs) : Own B w g cap E := by
  subst hq hv; exact h

theorem Own.later {B : Nat} {w w' : World} {g cap : Nat} {E : List Int} (h : Own B w g cap E) (hb : Below w.heap.size w w') : Own B w' g cap E := by
  have hlt := own_lt h
  unfold Own at h ⊢
  refine ⟨h.1, ?_⟩
  rcases h.2 with h' | ⟨g', cap', cur, e, hg, hh, r⟩
  · exact .inl h'
  · have e' := e
    simp only [Value.slice.injEq, Option.some.injEq, Addr.mk.injEq, and_true, true_and] at e'
    obtain ⟨rfl, rfl⟩ := e'
    exact .inr ⟨g, cap, cur, e, hg, by rw [hb.block g hlt]; exact hh, r⟩

theorem take_bytes (st : ByteArray) (m : Nat) (h : m < st.size) : (numsOf st).take (m + 1) = (numsOf st).take m ++ [(st[m].toNat : Int)] := by
  rw [List.take_succ_eq_append_getElem (by rw [numsOf_length]; exact h)]
  congr 1
  simp [numsOf]
  rfl

theorem indom_yes (c : Int) (w : World) (h1 : c < 32 ∨ c = 34 ∨ c = 92) : Calls Try.prog 11 #[.int .u8 c] w fun e w' => e = .returned (.bool true) ∧ w' = w := by
  by_cases h2 : c < 32
  · go_enter Try.func11, Try.ntmps11
    go_wp2
    go_ret
    exact ⟨rfl, rfl⟩
  · have h3 := h1.resolve_left h2
    clear h1
    rcases h3 with rfl | rfl
    all_goals
      go_enter Try.func11, Try.ntmps11
      go_wp2
      go_ret
      exact ⟨rfl, rfl⟩

theorem indom_no (c : Int) (w : World) (h1 : ¬ (c < 32 ∨ c = 34 ∨ c = 92)) : Calls Try.prog 11 #[.int .u8 c] w fun e w' => e = .returned (.bool false) ∧ w' = w := by
  have h2 : ¬ c < 32 := fun h => h1 (.inl h)
  have h3 : (c == 34) = false := by simp; omega
  have h4 : (c == 92) = false := by simp; omega
  clear h1
  go_enter Try.func11, Try.ntmps11
  go_wp2
  go_ret
  exact ⟨rfl, rfl⟩

set_option maxHeartbeats 1000000 in
theorem body20 (ao : Option Addr) (n c : Nat) (xs : List Int) (w : World) (hn : n ≤ 65536) (hh : Held w ao n xs) :
    Calls Try.prog 20 #[.slice ao n c] w fun e w' => ∃ E : List Int, e = .returned (.slice (some ⟨w.heap.size, 0, none⟩) E.length (6 * n)) ∧ Own w.heap.size w' w.heap.size (6 * n) E ∧ EscOk E ∧ E.length ≤ 6 * n ∧ Below w.heap.size w w' ∧ w.heap.size < w'.heap.size := by
  obtain ⟨i0, hi, hz0, hz1, hz2⟩ := info_parts info5
  have hb2 : i0.bytes * (6 * n) ≤ 281474976710656 := by rw [hz2]; omega
  have hb3 : 6 * n ≤ maxLen := by unfold maxLen; omega
  have HH : Hid (Held w ao n xs) := hh
  clear hh
  go_enter Try.func20, Try.ntmps20
  go_wp2_with (at_make; refine wpList_make_own _ rfl _ _ 26 rfl w.heap.size 5 i0 (.int .u8 0) 1 Try.underlying26 hi hz0 hz1 _ _ _ (6 * n) rfl rfl (by omega) hb2 hb3 (Nat.le_refl _) ?_; intro w1 hown hgrow)
  go_loopw [3, 4] (fun out i wr => ∃ (k : Nat) (E : List Int), k ≤ n ∧ i = .int .i64 k ∧ out = .slice (some ⟨w.heap.size, 0, none⟩) E.length (6 * n) ∧ Own w.heap.size wr w.heap.size (6 * n) E ∧ EscOk E ∧ E.length ≤ 6 * k ∧ Below w.heap.size w wr ∧ w.heap.size < wr.heap.size)
    (fun _ i _ => n - (intOf i).toNat)
  case atStart =>
    exact ⟨0, [], Nat.zero_le _, rfl, rfl, hown, escOk_nil, Nat.zero_le _, (Below.refl _ _).grown hgrow (Nat.le_refl _) (fun k h => by cases h), own_lt hown⟩
  case round =>
    clear hown hgrow
    obtain ⟨k, E, hk, rfl, rfl, hown, hE, hlE, hbel, hsz⟩ := hrel
    have HE : Hid (EscOk E) := hE
    clear hE
    by_cases hlt : k < n
    · have hH := HH.out.later hbel
      obtain ⟨B, rfl, hc⟩ := hH.2.2 (by omega)
      have hck := hc k hlt
      have h0 := hH.2.1 k hlt
      clear hH hc
      obtain ⟨v, hv⟩ : ∃ v, v = xs.getD k 0 := ⟨_, rfl⟩
      rw [← hv] at hck h0
      clear hv
      by_cases hd : v < 32 ∨ v = 34 ∨ v = 92
      · have HD : Hid (v < 32 ∨ v = 34 ∨ v = 92) := hd
        clear hd
        go_wp2_with (first
          | (go_at_call 11; refine (indom_yes v _ HD.out).mono ?_; rintro e w' ⟨rfl, rfl⟩)
          | (go_at_call 12; refine (esc12 v _ h0 HD.out).mono ?_; rintro e w' ⟨⟨st, rfl, k1, k2⟩, hb'⟩))
        have hown' := hown.later hb'
        have hbel' := hbel.trans (hb'.mono hbel.size)
        have hsz' : w.heap.size < w'.heap.size := Nat.lt_of_lt_of_le hsz hb'.size
        have HK : Hid (EscOk (numsOf st)) := k1
        clear hown hbel hsz hb' k1 hck
        go_loopw [3, 7] (fun out j wi => ∃ m : Nat, m ≤ st.size ∧ j = .int .i64 m ∧ out = .slice (some ⟨w.heap.size, 0, none⟩) (E.length + m) (6 * n) ∧ Own w.heap.size wi w.heap.size (6 * n) (E ++ (numsOf st).take m) ∧ Below w.heap.size w wi ∧ w.heap.size < wi.heap.size)
          (fun _ j _ => st.size - (intOf j).toNat)
        case atStart => exact ⟨0, Nat.zero_le _, rfl, rfl, by simpa using hown', hbel', hsz'⟩
        case round =>
          clear hown' hbel' hsz'
          obtain ⟨m, hm, rfl, rfl, hown, hbel, hsz⟩ := hrel
          have hlen : (E ++ (numsOf st).take m).length = E.length + m := by simp [numsOf_length]; omega
          by_cases hms : m < st.size
          · have hown1 := hown.form hlen
            have HT : Hid ((E ++ (numsOf st).take (m + 1)).map (Value.int .u8) = (E ++ (numsOf st).take m).map (Value.int .u8) ++ [.int .u8 (st[m].toNat : Int)]) := (by rw [take_bytes st m hms]; simp : (E ++ (numsOf st).take (m + 1)).map (Value.int .u8) = (E ++ (numsOf st).take m).map (Value.int .u8) ++ [.int .u8 (st[m].toNat : Int)])
            have HL : Hid ((E ++ (numsOf st).take (m + 1)).length = E.length + m + 1) := (by simp [numsOf_length]; omega : (E ++ (numsOf st).take (m + 1)).length = E.length + m + 1)
            clear hown hlen
            go_wp2_with (at_builtin; refine wpList_append_fits _ rfl _ _ 26 rfl w.heap.size 5 i0 1 Try.underlying26 hi hz1 w.heap.size (E.length + m) (6 * n) ((E ++ (numsOf st).take m).map (Value.int .u8)) rfl (hown1.alloc _) ⟨_, 0, none⟩ 1 1 [.int .u8 (st[m].toNat : Int)] rfl rfl (cell_one_new _ _ _) (ints_oneCell .u8 [(st[m].toNat : Int)]) (by omega) ?_; intro w2 hown2 hgrow2)
            go_roundw
            case rel =>
              refine ⟨m + 1, by omega, by go_num, rfl, Own.of hown2 HL.out HT.out, (hbel.alloc hbel.size _).grown hgrow2 (by simp; omega) (fun k h => by cases h; exact Nat.le_refl _), ?_⟩
              exact own_lt hown2
            case measure => simp [intOf]; omega
          · obtain rfl : m = st.size := by omega
            rw [List.take_of_length_le (by rw [numsOf_length]; exact Nat.le_refl _)] at hown
            have HL : Hid ((E ++ numsOf st).length = E.length + st.size) := (by simp [numsOf_length] : (E ++ numsOf st).length = E.length + st.size)
            go_wp2
            go_roundw
            case rel =>
              refine ⟨k + 1, E ++ numsOf st, by omega, by go_num, by rw [HL.out], hown, escOk_append HE.out HK.out, by rw [HL.out]; omega, hbel, hsz⟩
            case measure => simp [intOf]; omega
      · have HD : Hid (¬ (v < 32 ∨ v = 34 ∨ v = 92)) := hd
        clear hd
        unfold Own at hown
        go_wp2_with (first
          | (go_at_call 11; refine (indom_no v _ HD.out).mono ?_; rintro e w' ⟨rfl, rfl⟩)
          | (at_builtin; refine wpList_append_fits _ rfl _ _ 26 rfl w.heap.size 5 i0 1 Try.underlying26 hi hz1 w.heap.size E.length (6 * n) (E.map (Value.int .u8)) rfl (hown.alloc _) ⟨_, 0, none⟩ 1 1 [.int .u8 v] rfl rfl (cell_one_new _ _ _) (ints_oneCell .u8 [v]) (by omega) ?_; intro w2 hown2 hgrow2))
        have HO : Own w.heap.size w2 w.heap.size (6 * n) (E ++ [v]) := Own.next hown2
        go_roundw
        case rel =>
          refine ⟨k + 1, E ++ [v], by omega, by go_num, by simp, HO, escOk_append HE.out (escOk_one (fun e => HD.out (.inr (.inr e))) (fun e => HD.out (.inr (.inl e)))), by simp; omega, (hbel.alloc hbel.size _).grown hgrow2 (by simp; omega) (fun k h => by cases h; exact Nat.le_refl _), own_lt hown2⟩
        case measure => simp [intOf]; omega
    · obtain rfl : k = n := by omega
      go_wp2
      go_ret
      exact ⟨E, rfl, hown, HE.out, hlE, hbel, hsz⟩
end Go.Proofs.Qxb6000696a
