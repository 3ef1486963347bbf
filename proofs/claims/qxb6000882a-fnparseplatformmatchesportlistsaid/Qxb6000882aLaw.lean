/-
  The walk of the law FnParsePlatformMatchesPortList (function 3).
-/
import Derived.WalkKit
import Derived.OpenShut
import Derived.Below
import Derived.Lib.Strings
import Derived.Lib.IndexMore
import Derived.Test.Qxb6000882aTables
import Derived.Test.Qxb6000882aParse
namespace Go.Proofs.Qxb6000882a.fnParsePlatformMatchesPortList
open Go.RowKit Plain
set_option linter.unusedVariables false

theorem occ_iff (l : List UInt8) (j : Nat) : Lib.occAt l [47] j = true ↔ ∃ h : j < l.length, l[j] = 47 := by
  unfold Lib.occAt
  rw [List.isPrefixOf_iff_prefix]
  by_cases h : j < l.length
  · rw [List.drop_eq_getElem_cons h, List.cons_prefix_cons]
    constructor
    · rintro ⟨e, _⟩; exact ⟨h, e.symm⟩
    · rintro ⟨_, e⟩; exact ⟨e.symm, List.nil_prefix⟩
  · rw [List.drop_eq_nil_of_le (by omega)]
    simp [h]

/-- What strings.Cut finds at a slash. -/
theorem cut_cases (s : ByteArray) :
    (∃ p : Nat, ∃ h : p < s.size, s[p] = 47 ∧ (∀ j (hj : j < p), s[j]'(by omega) ≠ 47) ∧ s.extract 0 p = ⟨(Lib.cut s.data.toList [47]).1.toArray⟩ ∧ s.extract (p + 1) s.size = ⟨(Lib.cut s.data.toList [47]).2.1.toArray⟩ ∧ true = (Lib.cut s.data.toList [47]).2.2) ∨
    ((∀ j (hj : j < s.size), s[j] ≠ 47) ∧ false = (Lib.cut s.data.toList [47]).2.2) := by
  have hlen : s.data.toList.length = s.size := by simp
  rcases Lib.index_spec s.data.toList [47] with ⟨h1, h2⟩ | ⟨p, h1, h2, h3, h4⟩
  · right
    refine ⟨fun j hj e => ?_, ?_⟩
    · have := h2 j (by omega)
      rw [(occ_iff _ j).2 ⟨by omega, by rw [Array.getElem_toList]; exact e⟩] at this
      cases this
    · unfold Lib.cut
      rw [if_neg (by rw [h1]; decide)]
  · left
    obtain ⟨hp, e⟩ := (occ_iff _ p).1 h3
    rw [Array.getElem_toList] at e
    refine ⟨p, by omega, e, fun j hj e' => ?_, ?_, ?_, ?_⟩
    · have := h4 j hj
      rw [(occ_iff _ j).2 ⟨by omega, by rw [Array.getElem_toList]; exact e'⟩] at this
      cases this
    · unfold Lib.cut
      rw [if_pos (by rw [h1]; omega), h1]
      apply ByteArray.ext
      apply Array.toList_inj.1
      rw [Lib.extract_data]
      simp
    · unfold Lib.cut
      rw [if_pos (by rw [h1]; omega), h1]
      apply ByteArray.ext
      apply Array.toList_inj.1
      rw [Lib.extract_data, List.take_of_length_le (by simp)]
      simp
    · unfold Lib.cut
      rw [if_pos (by rw [h1]; omega)]

theorem goos_val (s : ByteArray) (b : Bool) (w : World) (h : isOS s.data.toList = b) : Calls Try.prog 7 #[.string s] w fun e w' => e = .returned (.bool b) ∧ w' = w := by
  subst h; exact goos s w
theorem goarch_val (s : ByteArray) (b : Bool) (w : World) (h : isArch s.data.toList = b) : Calls Try.prog 8 #[.string s] w fun e w' => e = .returned (.bool b) ∧ w' = w := by
  subst h; exact goarch s w

theorem zz_pair (s A B : ByteArray) (ok : Bool) (m : Int) (w : World) (hs : s.size ≤ 65536) (hm : w.cell? ⟨0, 0, none⟩ = some (.int .i64 m))
    (hA : A = ⟨(Lib.cut s.data.toList [47]).1.toArray⟩) (hB : B = ⟨(Lib.cut s.data.toList [47]).2.1.toArray⟩) (hf : true = (Lib.cut s.data.toList [47]).2.2) (sA : A.size ≤ 65536) (sB : B.size ≤ 65536)
    (hok : (isOS A.data.toList && isArch B.data.toList) = ok) :
    Calls Try.prog 6 #[.string s] w fun e w' => e = .returned (.tuple #[.agg #[.string A, .string B], .bool ok]) ∧ Below w.heap.size w w' := by
  subst hok
  exact zz6 s A B _ m w hm (fun wx hx => parse_pair s A B m wx hs hx hA hB hf sA sB)

theorem zz_lone (s X Y : ByteArray) (ok : Bool) (m : Int) (w : World) (hs : s.size ≤ 65536) (hm : w.cell? ⟨0, 0, none⟩ = some (.int .i64 m)) (hf : false = (Lib.cut s.data.toList [47]).2.2) (hl : lone s = (X, Y, ok)) :
    Calls Try.prog 6 #[.string s] w fun e w' => e = .returned (.tuple #[.agg #[.string X, .string Y], .bool ok]) ∧ Below w.heap.size w w' := by
  refine zz6 s X Y ok m w hm (fun wx hx => ?_)
  have h := parse_lone s m wx hs hx hf
  rw [hl] at h
  exact h

set_option maxHeartbeats 1000000 in
theorem walk_pair (s : ByteArray) (m : Int) (w : World) (hs : s.size ≤ 65536) (hm : w.cell? ⟨0, 0, none⟩ = some (.int .i64 m)) (p : Nat) (hp : p < s.size) (h47 : s[p] = 47) (hno : ∀ j (hj : j < p), s[j]'(by omega) ≠ 47)
    (hA : s.extract 0 p = ⟨(Lib.cut s.data.toList [47]).1.toArray⟩) (hB : s.extract (p + 1) s.size = ⟨(Lib.cut s.data.toList [47]).2.1.toArray⟩) (hf : true = (Lib.cut s.data.toList [47]).2.2)
    (b1 b2 : Bool) (e1 : isOS (s.extract 0 p).data.toList = b1) (e2 : isArch (s.extract (p + 1) s.size).data.toList = b2) :
    Calls Try.prog 3 #[.string s] w fun e w' => e = .returned (.bool true) ∧ Below w.heap.size w w' := by
  have Z : Hid (Calls Try.prog 6 #[.string s] w fun e w' => e = .returned (.tuple #[.agg #[.string (s.extract 0 p), .string (s.extract (p + 1) s.size)], .bool (b1 && b2)]) ∧ Below w.heap.size w w') :=
    zz_pair s _ _ _ m w hs hm hA hB hf (by simp; omega) (by simp; omega) (by rw [e1, e2])
  have E1 : Hid (isOS (s.extract 0 p).data.toList = b1) := e1
  have E2 : Hid (isArch (s.extract (p + 1) s.size).data.toList = b2) := e2
  have HN : Hid (∀ j (hj : j < p), s[j]'(by omega) ≠ 47) := hno
  have H47 : Hid (s[p] = 47) := h47
  clear hA hB hf e1 e2 hm hno h47
  have hbig : ¬ (65536 : Int) < (s.size : Int) := by omega
  cases b1 with
  | false =>
    go_enter Try.func3, Try.ntmps3
    go_wp2_with (first
      | (go_at_call 6; refine Calls.mono Z.out ?_; rintro e w1 ⟨rfl, bel⟩)
      | go_in)
    go_loop [5, 6] (fun t i => t = .int .i64 (-1) ∧ ∃ k : Nat, k ≤ p ∧ i = .int .i64 k) (fun _ i => p + 1 - (intOf i).toNat)
    case atStart => exact ⟨rfl, 0, Nat.zero_le _, rfl⟩
    case round =>
      obtain ⟨rfl, k, hk, rfl⟩ := hrel
      by_cases hlt : k < p
      · have hne : ((s[k]'(by omega)).toNat == 47) = false := by
          have := HN.out k hlt
          simp only [beq_eq_false_iff_ne]
          intro e
          exact this (UInt8.toNat_inj.1 e)
        go_wp2
        go_round
        case rel => exact ⟨rfl, k + 1, by omega, by go_num⟩
        case measure => simp [intOf]; omega
      · obtain rfl : k = p := by omega
        have heq : (s[k].toNat == 47) = true := by rw [H47.out]; rfl
        go_wp2_with (go_at_call 7; refine (goos_val _ false _ E1.out).mono ?_; rintro e w2 ⟨rfl, rfl⟩)
        go_ret
        exact ⟨rfl, bel.alloc bel.size _⟩
  | true =>
    cases b2 with
    | false =>
      go_enter Try.func3, Try.ntmps3
      go_wp2_with (first
        | (go_at_call 6; refine Calls.mono Z.out ?_; rintro e w1 ⟨rfl, bel⟩)
        | go_in)
      go_loop [5, 6] (fun t i => t = .int .i64 (-1) ∧ ∃ k : Nat, k ≤ p ∧ i = .int .i64 k) (fun _ i => p + 1 - (intOf i).toNat)
      case atStart => exact ⟨rfl, 0, Nat.zero_le _, rfl⟩
      case round =>
        obtain ⟨rfl, k, hk, rfl⟩ := hrel
        by_cases hlt : k < p
        · have hne : ((s[k]'(by omega)).toNat == 47) = false := by
            have := HN.out k hlt
            simp only [beq_eq_false_iff_ne]
            intro e
            exact this (UInt8.toNat_inj.1 e)
          go_wp2
          go_round
          case rel => exact ⟨rfl, k + 1, by omega, by go_num⟩
          case measure => simp [intOf]; omega
        · obtain rfl : k = p := by omega
          have heq : (s[k].toNat == 47) = true := by rw [H47.out]; rfl
          go_wp2_with (first
            | (go_at_call 7; refine (goos_val _ true _ E1.out).mono ?_; rintro e w2 ⟨rfl, rfl⟩)
            | (go_at_call 8; refine (goarch_val _ false _ E2.out).mono ?_; rintro e w2 ⟨rfl, rfl⟩))
          go_ret
          exact ⟨rfl, bel.alloc bel.size _⟩
    | true =>
      go_enter Try.func3, Try.ntmps3
      go_wp2_with (first
        | (go_at_call 6; refine Calls.mono Z.out ?_; rintro e w1 ⟨rfl, bel⟩)
        | go_in)
      go_loop [5, 6] (fun t i => t = .int .i64 (-1) ∧ ∃ k : Nat, k ≤ p ∧ i = .int .i64 k) (fun _ i => p + 1 - (intOf i).toNat)
      case atStart => exact ⟨rfl, 0, Nat.zero_le _, rfl⟩
      case round =>
        obtain ⟨rfl, k, hk, rfl⟩ := hrel
        by_cases hlt : k < p
        · have hne : ((s[k]'(by omega)).toNat == 47) = false := by
            have := HN.out k hlt
            simp only [beq_eq_false_iff_ne]
            intro e
            exact this (UInt8.toNat_inj.1 e)
          go_wp2
          go_round
          case rel => exact ⟨rfl, k + 1, by omega, by go_num⟩
          case measure => simp [intOf]; omega
        · obtain rfl : k = p := by omega
          have heq : (s[k].toNat == 47) = true := by rw [H47.out]; rfl
          go_wp2_with (first
            | (go_at_call 7; refine (goos_val _ true _ E1.out).mono ?_; rintro e w2 ⟨rfl, rfl⟩)
            | (go_at_call 8; refine (goarch_val _ true _ E2.out).mono ?_; rintro e w2 ⟨rfl, rfl⟩))
          go_ret
          exact ⟨rfl, bel.alloc bel.size _⟩

set_option maxHeartbeats 1000000 in
theorem lone_tt (s : ByteArray) (m : Int) (w : World) (hs : s.size ≤ 65536) (hm : w.cell? ⟨0, 0, none⟩ = some (.int .i64 m)) (hno : ∀ j (hj : j < s.size), s[j] ≠ 47) (hf : false = (Lib.cut s.data.toList [47]).2.2)
    (e1 : isOS s.data.toList = true) (e2 : isArch s.data.toList = true) :
    Calls Try.prog 3 #[.string s] w fun e w' => e = .returned (.bool true) ∧ Below w.heap.size w w' := by
  have HL : Hid (lone s = (s, ⟨#[]⟩, true)) := (by unfold lone; rw [e1]; rfl : lone s = (s, ⟨#[]⟩, true))
  have HF : Hid (false = (Lib.cut s.data.toList [47]).2.2) := hf
  have HM : Hid (w.cell? ⟨0, 0, none⟩ = some (.int .i64 m)) := hm
  have E1 : Hid (isOS s.data.toList = true) := e1
  have E2 : Hid (isArch s.data.toList = true) := e2
  have HN : Hid (∀ j (hj : j < s.size), s[j] ≠ 47) := hno
  clear hf e1 e2 hm hno
  have hbig : ¬ (65536 : Int) < (s.size : Int) := by omega
  go_enter Try.func3, Try.ntmps3
  go_wp2_with (first
    | (go_at_call 6; refine (zz_lone s s ⟨#[]⟩ true m _ hs HM.out HF.out HL.out).mono ?_; rintro e w1 ⟨rfl, bel⟩)
    | go_in)
  go_loop [5, 6] (fun t i => t = .int .i64 (-1) ∧ ∃ k : Nat, k ≤ s.size ∧ i = .int .i64 k) (fun _ i => s.size - (intOf i).toNat)
  case atStart => exact ⟨rfl, 0, Nat.zero_le _, rfl⟩
  case round =>
    obtain ⟨rfl, k, hk, rfl⟩ := hrel
    by_cases hlt : k < s.size
    · have hne : (s[k].toNat == 47) = false := by
        have := HN.out k hlt
        simp only [beq_eq_false_iff_ne]
        intro e
        exact this (UInt8.toNat_inj.1 e)
      go_wp2
      go_round
      case rel => exact ⟨rfl, k + 1, by omega, by go_num⟩
      case measure => simp [intOf]; omega
    · go_wp2_with (first
        | (go_at_call 7; refine (goos_val _ true _ E1.out).mono ?_; rintro e w2 ⟨rfl, rfl⟩)
        | (go_at_call 8; refine (goarch_val _ true _ E2.out).mono ?_; rintro e w2 ⟨rfl, rfl⟩))
      go_ret
      exact ⟨rfl, bel.alloc bel.size _⟩

set_option maxHeartbeats 1000000 in
theorem lone_tf (s : ByteArray) (m : Int) (w : World) (hs : s.size ≤ 65536) (hm : w.cell? ⟨0, 0, none⟩ = some (.int .i64 m)) (hno : ∀ j (hj : j < s.size), s[j] ≠ 47) (hf : false = (Lib.cut s.data.toList [47]).2.2)
    (e1 : isOS s.data.toList = true) (e2 : isArch s.data.toList = false) :
    Calls Try.prog 3 #[.string s] w fun e w' => e = .returned (.bool true) ∧ Below w.heap.size w w' := by
  have HL : Hid (lone s = (s, ⟨#[]⟩, true)) := (by unfold lone; rw [e1]; rfl : lone s = (s, ⟨#[]⟩, true))
  have HF : Hid (false = (Lib.cut s.data.toList [47]).2.2) := hf
  have HM : Hid (w.cell? ⟨0, 0, none⟩ = some (.int .i64 m)) := hm
  have E1 : Hid (isOS s.data.toList = true) := e1
  have E2 : Hid (isArch s.data.toList = false) := e2
  have HN : Hid (∀ j (hj : j < s.size), s[j] ≠ 47) := hno
  clear hf e1 e2 hm hno
  have hbig : ¬ (65536 : Int) < (s.size : Int) := by omega
  go_enter Try.func3, Try.ntmps3
  go_wp2_with (first
    | (go_at_call 6; refine (zz_lone s s ⟨#[]⟩ true m _ hs HM.out HF.out HL.out).mono ?_; rintro e w1 ⟨rfl, bel⟩)
    | go_in)
  go_loop [5, 6] (fun t i => t = .int .i64 (-1) ∧ ∃ k : Nat, k ≤ s.size ∧ i = .int .i64 k) (fun _ i => s.size - (intOf i).toNat)
  case atStart => exact ⟨rfl, 0, Nat.zero_le _, rfl⟩
  case round =>
    obtain ⟨rfl, k, hk, rfl⟩ := hrel
    by_cases hlt : k < s.size
    · have hne : (s[k].toNat == 47) = false := by
        have := HN.out k hlt
        simp only [beq_eq_false_iff_ne]
        intro e
        exact this (UInt8.toNat_inj.1 e)
      go_wp2
      go_round
      case rel => exact ⟨rfl, k + 1, by omega, by go_num⟩
      case measure => simp [intOf]; omega
    · go_wp2_with (first
        | (go_at_call 7; refine (goos_val _ true _ E1.out).mono ?_; rintro e w2 ⟨rfl, rfl⟩)
        | (go_at_call 8; refine (goarch_val _ false _ E2.out).mono ?_; rintro e w2 ⟨rfl, rfl⟩))
      go_ret
      exact ⟨rfl, bel.alloc bel.size _⟩

set_option maxHeartbeats 1000000 in
theorem lone_ft (s : ByteArray) (m : Int) (w : World) (hs : s.size ≤ 65536) (hm : w.cell? ⟨0, 0, none⟩ = some (.int .i64 m)) (hno : ∀ j (hj : j < s.size), s[j] ≠ 47) (hf : false = (Lib.cut s.data.toList [47]).2.2)
    (e1 : isOS s.data.toList = false) (e2 : isArch s.data.toList = true) :
    Calls Try.prog 3 #[.string s] w fun e w' => e = .returned (.bool true) ∧ Below w.heap.size w w' := by
  have HL : Hid (lone s = (⟨#[]⟩, s, true)) := (by unfold lone; rw [e1]; rw [e2]; rfl : lone s = (⟨#[]⟩, s, true))
  have HF : Hid (false = (Lib.cut s.data.toList [47]).2.2) := hf
  have HM : Hid (w.cell? ⟨0, 0, none⟩ = some (.int .i64 m)) := hm
  have E1 : Hid (isOS s.data.toList = false) := e1
  have E2 : Hid (isArch s.data.toList = true) := e2
  have HN : Hid (∀ j (hj : j < s.size), s[j] ≠ 47) := hno
  clear hf e1 e2 hm hno
  have hbig : ¬ (65536 : Int) < (s.size : Int) := by omega
  go_enter Try.func3, Try.ntmps3
  go_wp2_with (first
    | (go_at_call 6; refine (zz_lone s ⟨#[]⟩ s true m _ hs HM.out HF.out HL.out).mono ?_; rintro e w1 ⟨rfl, bel⟩)
    | go_in)
  go_loop [5, 6] (fun t i => t = .int .i64 (-1) ∧ ∃ k : Nat, k ≤ s.size ∧ i = .int .i64 k) (fun _ i => s.size - (intOf i).toNat)
  case atStart => exact ⟨rfl, 0, Nat.zero_le _, rfl⟩
  case round =>
    obtain ⟨rfl, k, hk, rfl⟩ := hrel
    by_cases hlt : k < s.size
    · have hne : (s[k].toNat == 47) = false := by
        have := HN.out k hlt
        simp only [beq_eq_false_iff_ne]
        intro e
        exact this (UInt8.toNat_inj.1 e)
      go_wp2
      go_round
      case rel => exact ⟨rfl, k + 1, by omega, by go_num⟩
      case measure => simp [intOf]; omega
    · go_wp2_with (first
        | (go_at_call 7; refine (goos_val _ false _ E1.out).mono ?_; rintro e w2 ⟨rfl, rfl⟩)
        | (go_at_call 8; refine (goarch_val _ true _ E2.out).mono ?_; rintro e w2 ⟨rfl, rfl⟩))
      go_ret
      exact ⟨rfl, bel.alloc bel.size _⟩

set_option maxHeartbeats 1000000 in
theorem lone_ff (s : ByteArray) (m : Int) (w : World) (hs : s.size ≤ 65536) (hm : w.cell? ⟨0, 0, none⟩ = some (.int .i64 m)) (hno : ∀ j (hj : j < s.size), s[j] ≠ 47) (hf : false = (Lib.cut s.data.toList [47]).2.2)
    (e1 : isOS s.data.toList = false) (e2 : isArch s.data.toList = false) :
    Calls Try.prog 3 #[.string s] w fun e w' => e = .returned (.bool true) ∧ Below w.heap.size w w' := by
  have HL : Hid (lone s = (⟨#[]⟩, ⟨#[]⟩, false)) := (by unfold lone; rw [e1]; rw [e2]; rfl : lone s = (⟨#[]⟩, ⟨#[]⟩, false))
  have HF : Hid (false = (Lib.cut s.data.toList [47]).2.2) := hf
  have HM : Hid (w.cell? ⟨0, 0, none⟩ = some (.int .i64 m)) := hm
  have E1 : Hid (isOS s.data.toList = false) := e1
  have E2 : Hid (isArch s.data.toList = false) := e2
  have HN : Hid (∀ j (hj : j < s.size), s[j] ≠ 47) := hno
  clear hf e1 e2 hm hno
  have hbig : ¬ (65536 : Int) < (s.size : Int) := by omega
  go_enter Try.func3, Try.ntmps3
  go_wp2_with (first
    | (go_at_call 6; refine (zz_lone s ⟨#[]⟩ ⟨#[]⟩ false m _ hs HM.out HF.out HL.out).mono ?_; rintro e w1 ⟨rfl, bel⟩)
    | go_in)
  go_loop [5, 6] (fun t i => t = .int .i64 (-1) ∧ ∃ k : Nat, k ≤ s.size ∧ i = .int .i64 k) (fun _ i => s.size - (intOf i).toNat)
  case atStart => exact ⟨rfl, 0, Nat.zero_le _, rfl⟩
  case round =>
    obtain ⟨rfl, k, hk, rfl⟩ := hrel
    by_cases hlt : k < s.size
    · have hne : (s[k].toNat == 47) = false := by
        have := HN.out k hlt
        simp only [beq_eq_false_iff_ne]
        intro e
        exact this (UInt8.toNat_inj.1 e)
      go_wp2
      go_round
      case rel => exact ⟨rfl, k + 1, by omega, by go_num⟩
      case measure => simp [intOf]; omega
    · go_wp2_with (first
        | (go_at_call 7; refine (goos_val _ false _ E1.out).mono ?_; rintro e w2 ⟨rfl, rfl⟩)
        | (go_at_call 8; refine (goarch_val _ false _ E2.out).mono ?_; rintro e w2 ⟨rfl, rfl⟩))
      go_ret
      exact ⟨rfl, bel.alloc bel.size _⟩

theorem walk (a0 : ByteArray) (w0 : a0.size ≤ maxLen) (m : Int) (w : World) (hm : w.cell? ⟨0, 0, none⟩ = some (.int .i64 m)) :
    Calls Try.prog 3 #[.string a0] w fun e w' => e = .returned (.bool true) ∧ Below w.heap.size w w' := by
  by_cases hbig : (65536 : Int) < (a0.size : Int)
  · unfold maxLen at w0
    go_enter Try.func3, Try.ntmps3
    go_wp2
    all_goals (go_ret; exact ⟨rfl, Below.refl _ _⟩)
  · have hs : a0.size ≤ 65536 := by omega
    rcases cut_cases a0 with ⟨p, hp, h47, hno, hA, hB, hf⟩ | ⟨hno, hf⟩
    · exact walk_pair a0 m w hs hm p hp h47 hno hA hB hf _ _ rfl rfl
    · cases e1 : isOS a0.data.toList with
      | true =>
        cases e2 : isArch a0.data.toList with
        | true => exact lone_tt a0 m w hs hm hno hf e1 e2
        | false => exact lone_tf a0 m w hs hm hno hf e1 e2
      | false =>
        cases e2 : isArch a0.data.toList with
        | true => exact lone_ft a0 m w hs hm hno hf e1 e2
        | false => exact lone_ff a0 m w hs hm hno hf e1 e2
end Go.Proofs.Qxb6000882a.fnParsePlatformMatchesPortList
