/-
  isGOOS (7) and isGOARCH (8): the law's own tables.
-/
import Derived.Test.Qxb6000882aProg
import Derived.Test.Qxb6000882aPlain
import Derived.WalkKit
import Derived.WalkSpells
import Derived.KernelRfl
import Derived.Lib.Strings
namespace Go.Proofs.Qxb6000882a
open Go.RowKit Plain

theorem ne_of_no {t : List (List UInt8)} {s : ByteArray} {l : List UInt8} (h : s.data.toList ∉ t) (hl : l ∈ t) : (s.toList == l) = false := by
  rw [Lib.toList_data, beq_eq_false_iff_ne]
  intro e
  exact h (e ▸ hl)

theorem goos_no (s : ByteArray) (w : World) (h0 : isOS s.data.toList = false) : Calls Try.prog 7 #[.string s] w fun e w' => e = .returned (.bool (isOS s.data.toList)) ∧ w' = w := by
  have h : s.data.toList ∉ oss := of_decide_eq_false h0
  have e0 : (s.toList == [97, 105, 120]) = false := ne_of_no (t := oss) h (by decide)
  have e1 : (s.toList == [97, 110, 100, 114, 111, 105, 100]) = false := ne_of_no (t := oss) h (by decide)
  have e2 : (s.toList == [100, 97, 114, 119, 105, 110]) = false := ne_of_no (t := oss) h (by decide)
  have e3 : (s.toList == [100, 114, 97, 103, 111, 110, 102, 108, 121]) = false := ne_of_no (t := oss) h (by decide)
  have e4 : (s.toList == [102, 114, 101, 101, 98, 115, 100]) = false := ne_of_no (t := oss) h (by decide)
  have e5 : (s.toList == [105, 108, 108, 117, 109, 111, 115]) = false := ne_of_no (t := oss) h (by decide)
  have e6 : (s.toList == [105, 111, 115]) = false := ne_of_no (t := oss) h (by decide)
  have e7 : (s.toList == [106, 115]) = false := ne_of_no (t := oss) h (by decide)
  have e8 : (s.toList == [108, 105, 110, 117, 120]) = false := ne_of_no (t := oss) h (by decide)
  have e9 : (s.toList == [110, 101, 116, 98, 115, 100]) = false := ne_of_no (t := oss) h (by decide)
  have e10 : (s.toList == [111, 112, 101, 110, 98, 115, 100]) = false := ne_of_no (t := oss) h (by decide)
  have e11 : (s.toList == [112, 108, 97, 110, 57]) = false := ne_of_no (t := oss) h (by decide)
  have e12 : (s.toList == [115, 111, 108, 97, 114, 105, 115]) = false := ne_of_no (t := oss) h (by decide)
  have e13 : (s.toList == [119, 97, 115, 105, 112, 49]) = false := ne_of_no (t := oss) h (by decide)
  have e14 : (s.toList == [119, 105, 110, 100, 111, 119, 115]) = false := ne_of_no (t := oss) h (by decide)
  have H0 : Hid (isOS s.data.toList = false) := h0
  clear h0 h
  go_enter Try.func7, Try.ntmps7
  go_wp2
  go_ret
  exact ⟨by rw [H0.out]; rfl, rfl⟩

theorem goos_yes (s : ByteArray) (w : World) (h0 : isOS s.data.toList = true) : Calls Try.prog 7 #[.string s] w fun e w' => e = .returned (.bool (isOS s.data.toList)) ∧ w' = w := by
  have h : s.toList ∈ oss := by rw [Lib.toList_data]; exact of_decide_eq_true h0
  have H0 : Hid (isOS s.data.toList = true) := h0
  clear h0
  unfold oss at h
  simp only [List.mem_cons, List.not_mem_nil, or_false] at h
  rcases h with e | e | e | e | e | e | e | e | e | e | e | e | e | e | e
  all_goals
    go_enter Try.func7, Try.ntmps7
    go_wp2
    go_ret
    exact ⟨by rw [H0.out]; rfl, rfl⟩

theorem goos (s : ByteArray) (w : World) : Calls Try.prog 7 #[.string s] w fun e w' => e = .returned (.bool (isOS s.data.toList)) ∧ w' = w := by
  cases h : isOS s.data.toList with
  | true => rw [← h]; exact goos_yes s w h
  | false => rw [← h]; exact goos_no s w h

theorem goarch_no (s : ByteArray) (w : World) (h0 : isArch s.data.toList = false) : Calls Try.prog 8 #[.string s] w fun e w' => e = .returned (.bool (isArch s.data.toList)) ∧ w' = w := by
  have h : s.data.toList ∉ archs := of_decide_eq_false h0
  have e0 : (s.toList == [51, 56, 54]) = false := ne_of_no (t := archs) h (by decide)
  have e1 : (s.toList == [97, 109, 100, 54, 52]) = false := ne_of_no (t := archs) h (by decide)
  have e2 : (s.toList == [97, 114, 109]) = false := ne_of_no (t := archs) h (by decide)
  have e3 : (s.toList == [97, 114, 109, 54, 52]) = false := ne_of_no (t := archs) h (by decide)
  have e4 : (s.toList == [108, 111, 111, 110, 103, 54, 52]) = false := ne_of_no (t := archs) h (by decide)
  have e5 : (s.toList == [109, 105, 112, 115]) = false := ne_of_no (t := archs) h (by decide)
  have e6 : (s.toList == [109, 105, 112, 115, 54, 52]) = false := ne_of_no (t := archs) h (by decide)
  have e7 : (s.toList == [109, 105, 112, 115, 54, 52, 108, 101]) = false := ne_of_no (t := archs) h (by decide)
  have e8 : (s.toList == [109, 105, 112, 115, 108, 101]) = false := ne_of_no (t := archs) h (by decide)
  have e9 : (s.toList == [112, 112, 99, 54, 52]) = false := ne_of_no (t := archs) h (by decide)
  have e10 : (s.toList == [112, 112, 99, 54, 52, 108, 101]) = false := ne_of_no (t := archs) h (by decide)
  have e11 : (s.toList == [114, 105, 115, 99, 118, 54, 52]) = false := ne_of_no (t := archs) h (by decide)
  have e12 : (s.toList == [115, 51, 57, 48, 120]) = false := ne_of_no (t := archs) h (by decide)
  have e13 : (s.toList == [119, 97, 115, 109]) = false := ne_of_no (t := archs) h (by decide)
  have H0 : Hid (isArch s.data.toList = false) := h0
  clear h0 h
  go_enter Try.func8, Try.ntmps8
  go_wp2
  go_ret
  exact ⟨by rw [H0.out]; rfl, rfl⟩

theorem goarch_yes (s : ByteArray) (w : World) (h0 : isArch s.data.toList = true) : Calls Try.prog 8 #[.string s] w fun e w' => e = .returned (.bool (isArch s.data.toList)) ∧ w' = w := by
  have h : s.toList ∈ archs := by rw [Lib.toList_data]; exact of_decide_eq_true h0
  have H0 : Hid (isArch s.data.toList = true) := h0
  clear h0
  unfold archs at h
  simp only [List.mem_cons, List.not_mem_nil, or_false] at h
  rcases h with e | e | e | e | e | e | e | e | e | e | e | e | e | e
  all_goals
    go_enter Try.func8, Try.ntmps8
    go_wp2
    go_ret
    exact ⟨by rw [H0.out]; rfl, rfl⟩

theorem goarch (s : ByteArray) (w : World) : Calls Try.prog 8 #[.string s] w fun e w' => e = .returned (.bool (isArch s.data.toList)) ∧ w' = w := by
  cases h : isArch s.data.toList with
  | true => rw [← h]; exact goarch_yes s w h
  | false => rw [← h]; exact goarch_no s w h
end Go.Proofs.Qxb6000882a
