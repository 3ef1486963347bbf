/-
  The walk of the law FnNameOfSplitsJoinedName (function 4).
-/
import Derived.WalkKit
import Derived.OpenShut
import Derived.Below
import Derived.Test.Qxb6000918aNames
namespace Go.Proofs.Qxb6000918a.fnNameOfSplitsJoinedName
open Go.RowKit
set_option linter.unusedVariables false

theorem bang (s : ByteArray) (k : Nat) (h : k < s.size) : s.data[k]! = s[k] := by
  have h' : k < s.data.size := h
  exact getElem!_pos s.data k h'

/-- zzHasSlash where there is none. -/
theorem has_no (t : ByteArray) (w : World) (hs : t.size ≤ 1048576) (hno : ∀ j (h : j < t.size), t[j].toNat ≠ 47) :
    Calls Try.prog 8 #[.string t] w fun e w' => e = .returned (.bool false) ∧ w' = w := by
  have HN : Hid (∀ j (h : j < t.size), t[j].toNat ≠ 47) := hno
  clear hno
  go_enter Try.func8, Try.ntmps8
  go_wp2
  go_loop [3] (fun i => ∃ k : Nat, k ≤ t.size ∧ i = .int .i64 k) (fun i => t.size - (intOf i).toNat)
  case atStart => exact ⟨0, Nat.zero_le _, rfl⟩
  case round =>
    obtain ⟨k, hk, rfl⟩ := hrel
    by_cases hlt : k < t.size
    · have he : (t[k].toNat == 47) = false := by simpa using HN.out k hlt
      go_wp2
      go_round
      case rel => exact ⟨k + 1, by omega, by go_num⟩
      case measure => simp [intOf]; omega
    · go_wp2
      go_ret
      exact ⟨rfl, rfl⟩

/-- zzHasSlash where there is one. -/
theorem has_yes (t : ByteArray) (w : World) (hs : t.size ≤ 1048576) (p : Nat) (hp : p < t.size) (h47 : t[p].toNat = 47) :
    Calls Try.prog 8 #[.string t] w fun e w' => e = .returned (.bool true) ∧ w' = w := by
  have H47 : Hid (t[p].toNat = 47) := h47
  clear h47
  go_enter Try.func8, Try.ntmps8
  go_wp2
  go_loop [3] (fun i => ∃ k : Nat, k ≤ p ∧ i = .int .i64 k) (fun i => p + 1 - (intOf i).toNat)
  case atStart => exact ⟨0, Nat.zero_le _, rfl⟩
  case round =>
    obtain ⟨k, hk, rfl⟩ := hrel
    have hlt : k < t.size := by omega
    by_cases hq : t[k].toNat = 47
    · have he : (t[k].toNat == 47) = true := by simpa using hq
      clear hq
      go_wp2
      go_ret
      exact ⟨rfl, rfl⟩
    · have he : (t[k].toNat == 47) = false := by simpa using hq
      have hkp : k ≠ p := fun e => by subst e; exact hq H47.out
      clear hq
      have hkp' : k < p := by omega
      clear hkp
      go_wp2
      go_round
      case rel => exact ⟨k + 1, by omega, by go_num⟩
      case measure => simp [intOf]; omega

/-! ### the joined name -/
theorem join_data (p t : ByteArray) : (p ++ (⟨#[47]⟩ : ByteArray) ++ t).data.toList = p.data.toList ++ 47 :: t.data.toList := by
  simp

theorem join_size (p t s : ByteArray) (h : p ++ (⟨#[47]⟩ : ByteArray) ++ t = s) : s.size = p.size + 1 + t.size := by
  have e := congrArg List.length (join_data p t)
  rw [h] at e
  simp at e
  omega

theorem join_at (p t s : ByteArray) (h : p ++ (⟨#[47]⟩ : ByteArray) ++ t = s) (j : Nat) : s.data.toList[j]? = (p.data.toList ++ 47 :: t.data.toList)[j]? := by
  rw [← join_data, h]

theorem last_join (p t s : ByteArray) (h : p ++ (⟨#[47]⟩ : ByteArray) ++ t = s) (hno : ∀ j (h : j < t.size), t[j].toNat ≠ 47) : Lib.lastIndexByte s 47 = p.size := by
  have hsz := join_size p t s h
  have hpl : p.data.toList.length = p.size := by simp
  have key : ∀ j (hj : j < s.size) (v : UInt8), (p.data.toList ++ 47 :: t.data.toList)[j]? = some v → s.data[j]! = v := by
    intro j hj v hv
    rw [← join_at p t s h j] at hv
    rw [getElem!_pos s.data j hj]
    rw [List.getElem?_eq_getElem (by simpa using hj)] at hv
    simpa using hv
  have hmid : s.data[p.size]! = 47 := key p.size (by omega) 47 (by rw [List.getElem?_append_right (by omega), hpl, Nat.sub_self]; rfl)
  have hright : ∀ j, p.size < j → j < s.size → (s.data[j]!).toNat ≠ 47 := by
    intro j h1 h2
    obtain ⟨d, rfl⟩ : ∃ d, j = p.size + (d + 1) := ⟨j - p.size - 1, by omega⟩
    have hj : d < t.size := by omega
    have e := key (p.size + (d + 1)) h2 t[d] (by
      rw [List.getElem?_append_right (by omega), hpl, show p.size + (d + 1) - p.size = d + 1 by omega, List.getElem?_cons_succ, List.getElem?_eq_getElem (by simpa using hj), Array.getElem_toList]
      rfl)
    rw [e]
    exact hno _ hj
  rcases Lib.lastIndexByte_spec s 47 with ⟨_, h2⟩ | ⟨i, hi, e, hc, h2⟩
  · exact absurd (by rw [hmid]; rfl) (h2 p.size (by omega))
  · rw [e]
    rcases Nat.lt_trichotomy i p.size with h' | h' | h'
    · exact absurd (by rw [hmid]; rfl) (h2 p.size h' (by omega))
    · rw [h']
    · exact absurd (by omega) (hright i h' hi)

theorem cut_left (p t s : ByteArray) (h : p ++ (⟨#[47]⟩ : ByteArray) ++ t = s) : (s.extract 0 p.size).toList = p.toList := by
  rw [Lib.extract_toList, Lib.toList_data, ← h, join_data]
  simp

theorem cut_right (p t s : ByteArray) (h : p ++ (⟨#[47]⟩ : ByteArray) ++ t = s) : (s.extract (p.size + 1) s.size).toList = t.toList := by
  have hsz := join_size p t s h
  rw [Lib.extract_toList, Lib.toList_data, ← h, join_data, h, hsz]
  have hpl : p.data.toList.length = p.size := by simp
  rw [List.drop_append, List.drop_eq_nil_of_le (by omega), hpl]
  simp
  exact List.take_of_length_le (by simp)

set_option maxHeartbeats 400000 in
theorem walk (a0 a1 : ByteArray) (w0 : a0.size ≤ maxLen) (w1 : a1.size ≤ maxLen) (w : World) :
    Calls Try.prog 4 #[.string a0, .string a1] w fun e w' => e = .returned (.bool true) ∧ Below w.heap.size w w' := by
  by_cases hbig : (1048576 : Int) < (a0.size : Int) + (a1.size : Int)
  · unfold maxLen at w0 w1
    go_enter Try.func4, Try.ntmps4
    go_wp2
    all_goals (go_ret; exact ⟨rfl, Below.refl _ _⟩)
  · clear w0 w1
    by_cases hs : ∃ p, ∃ h : p < a1.size, a1[p].toNat = 47
    · obtain ⟨p, hp, h47⟩ := hs
      have H47 : Hid (a1[p].toNat = 47) := h47
      clear h47
      go_enter Try.func4, Try.ntmps4
      go_wp2_with (first
        | (go_at_call 8; refine (has_yes a1 _ (by omega) p hp H47.out).mono ?_; rintro e w' ⟨rfl, rfl⟩)
        | go_in)
      go_ret
      exact ⟨rfl, Below.refl _ _⟩
    · have hno : ∀ j (h : j < a1.size), a1[j].toNat ≠ 47 := fun j h e => hs ⟨j, h, e⟩
      clear hs
      have HN : Hid (∀ j (h : j < a1.size), a1[j].toNat ≠ 47) := hno
      obtain ⟨s, hj⟩ : ∃ s, a0 ++ (⟨#[47]⟩ : ByteArray) ++ a1 = s := ⟨_, rfl⟩
      have hsz := join_size a0 a1 s hj
      have HL : Hid (Lib.lastIndexByte s 47 = a0.size) := last_join a0 a1 s hj hno
      have c1 := cut_left a0 a1 s hj
      have c2 := cut_right a0 a1 s hj
      have Z : Hid (∀ wx : World, Calls Try.prog 6 #[.string s] wx fun e w' => e = .returned (.tuple #[.string s, .int .i64 (a0.size : Int)]) ∧ Below wx.heap.size wx w') := fun wx => by
        have h := zz6 s wx (by omega)
        rw [HL.out] at h
        exact h
      clear hno
      have HZ : Hid (s.size = a0.size + 1 + a1.size) := hsz
      have hle : a0.size + 1 ≤ s.size := by omega
      clear hsz
      go_enter Try.func4, Try.ntmps4
      go_wp2_with (first
        | (go_at_call 8; refine (has_no a1 _ (by omega) HN.out).mono ?_; rintro e w' ⟨rfl, rfl⟩)
        | (go_at_call 6; refine (Z.out _).mono ?_; rintro e w1 ⟨rfl, bel⟩)
        | go_in)
      go_ret
      exact ⟨rfl, bel⟩
end Go.Proofs.Qxb6000918a.fnNameOfSplitsJoinedName
