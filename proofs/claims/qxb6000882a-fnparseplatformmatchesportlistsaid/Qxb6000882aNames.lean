/-
  plainName (15), knownOS (12), knownArch (13) by contract.
-/
import Derived.Test.Qxb6000882aShelf
import Derived.Test.Qxb6000882aPlain
import Derived.Lib.ConvBytes
import Derived.WalkKit
import Derived.WalkSpells
import Derived.KernelRfl
namespace Go.Proofs.Qxb6000882a
open Go.RowKit Plain

theorem bytes_of (s : ByteArray) (w : World) : ∃ (c : Nat) (wB : World), (convert 9 31 (.string s)).run Try.prog w = .ok (.slice (some ⟨w.heap.size, 0, none⟩) s.size c) wB ∧ Below w.heap.size w wB ∧
    ∀ j, j < s.size → wB.cell? ⟨w.heap.size, j, none⟩ = some (.int .u8 ((s.data.toList.getD j 0).toNat : Int)) := by
  refine ⟨_, _, Lib.run_convert_string_bytes (P := Try.prog) w 9 31 5 s Try.underlying9 Try.underlying31 Try.underlying5, ⟨rfl, rfl, rfl, ?_, ?_⟩, ?_⟩
  · rw [Lib.bytesWorld_size]; omega
  · intro k hk; exact Lib.bytesWorld_at_old w 5 s k hk
  · intro j hj; exact Lib.bytesWorld_cell w 5 s j hj

theorem all_take (l : List UInt8) (k : Nat) (hk : k < l.length) : (l.take (k + 1)).all okc = ((l.take k).all okc && okc (l.getD k 0)) := by
  rw [List.take_succ_eq_append_getElem hk, List.all_append]
  simp [List.getD, hk]

theorem all_miss (l : List UInt8) (k : Nat) (hk : k < l.length) (h : okc (l.getD k 0) = false) : l.all okc = false := by
  rw [List.all_eq_false]
  refine ⟨l[k], List.getElem_mem hk, ?_⟩
  simp [List.getD, hk] at h
  simp [h]

theorem okc_yes (c : UInt8) (h : (97 ≤ (c.toNat : Int) ∧ (c.toNat : Int) ≤ 122) ∨ (48 ≤ (c.toNat : Int) ∧ (c.toNat : Int) ≤ 57)) : okc c = true := by
  unfold okc; simp; omega
theorem okc_no (c : UInt8) (h : ¬ ((97 ≤ (c.toNat : Int) ∧ (c.toNat : Int) ≤ 122) ∨ (48 ≤ (c.toNat : Int) ∧ (c.toNat : Int) ≤ 57))) : okc c = false := by
  unfold okc; simp; omega

set_option maxHeartbeats 400000 in
theorem plain15 (s : ByteArray) (w : World) (hs : s.size ≤ 65536) :
    Calls Try.prog 15 #[.string s] w fun e w' => e = .returned (.bool (plain s.data.toList)) ∧ Below w.heap.size w w' := by
  obtain ⟨c, wB, hcv, hb, hcell⟩ := bytes_of s w
  have hlen : s.data.toList.length = s.size := by simp
  have HP : Hid (plain s.data.toList = (!s.toList.isEmpty && s.data.toList.all okc)) := (by rw [Lib.toList_data]; rfl : plain s.data.toList = (!s.toList.isEmpty && s.data.toList.all okc))
  by_cases h0 : s.toList.isEmpty = true
  · go_enter Try.func15, Try.ntmps15
    go_wp2
    go_ret
    exact ⟨by rw [HP.out, h0]; rfl, Below.refl _ _⟩
  · have h1 : s.toList.isEmpty = false := by simpa using h0
    clear h0
    have HB : Hid (Below w.heap.size w wB) := hb
    clear hb
    go_enter Try.func15, Try.ntmps15
    go_wp2
    go_loop [10] (fun i => ∃ k : Nat, k ≤ s.size ∧ i = .int .i64 k ∧ (s.data.toList.take k).all okc = true) (fun i => s.size - (intOf i).toNat)
    case atStart => exact ⟨0, Nat.zero_le _, rfl, rfl⟩
    case round =>
      obtain ⟨k, hk, rfl, ha⟩ := hrel
      have HA : Hid ((s.data.toList.take k).all okc = true) := ha
      clear ha
      by_cases hlt : k < s.size
      · have hck := hcell k hlt
        have HC : Hid (∀ j, j < s.size → wB.cell? ⟨w.heap.size, j, none⟩ = some (.int .u8 ((s.data.toList.getD j 0).toNat : Int))) := hcell
        clear hcell
        have HS := all_take s.data.toList k (by omega)
        have HM := all_miss s.data.toList k (by omega)
        have HX : Hid (((s.data.toList.take (k + 1)).all okc = ((s.data.toList.take k).all okc && okc (s.data.toList.getD k 0))) ∧ (okc (s.data.toList.getD k 0) = false → s.data.toList.all okc = false)) := ⟨HS, HM⟩
        clear HS HM
        obtain ⟨v, hv⟩ : ∃ v, v = s.data.toList.getD k 0 := ⟨_, rfl⟩
        rw [← hv] at hck HX
        clear hv
        rcases (show (97 ≤ (v.toNat : Int) ∧ (v.toNat : Int) ≤ 122) ∨ (48 ≤ (v.toNat : Int) ∧ (v.toNat : Int) ≤ 57) ∨ (v.toNat : Int) < 48 ∨ (57 < (v.toNat : Int) ∧ (v.toNat : Int) < 97) ∨ 122 < (v.toNat : Int) by omega) with ⟨g1, g2⟩ | ⟨g1, g2⟩ | g1 | ⟨g1, g2⟩ | g1
        · go_wp2
          go_round
          case rel => exact ⟨k + 1, by omega, by go_num, by rw [HX.out.1, HA.out, okc_yes v (by omega)]; rfl⟩
          case measure => simp [intOf]; omega
        · go_wp2
          go_round
          case rel => exact ⟨k + 1, by omega, by go_num, by rw [HX.out.1, HA.out, okc_yes v (by omega)]; rfl⟩
          case measure => simp [intOf]; omega
        · go_wp2
          go_ret
          exact ⟨by rw [HP.out, HX.out.2 (okc_no v (by omega)), Bool.and_false]; rfl, HB.out⟩
        all_goals
          have e1 : decide ((v.toNat : Int) ≤ 57) = false := by simp; omega
          have e2 : decide (97 ≤ (v.toNat : Int)) = true → decide ((v.toNat : Int) ≤ 122) = false := by simp; omega
          go_wp2
          go_ret
          exact ⟨by rw [HP.out, HX.out.2 (okc_no v (by omega)), Bool.and_false]; rfl, HB.out⟩
      · go_wp2
        go_ret
        refine ⟨?_, HB.out⟩
        have := HA.out
        rw [List.take_of_length_le (by omega)] at this
        rw [HP.out, h1, this]; rfl

theorem ports_size : ports.length ≤ 65536 := by decide +kernel

theorem contains_ports (sub : ByteArray) (m : Int) (w : World) (hm : w.cell? ⟨0, 0, none⟩ = some (.int .i64 m)) :
    Calls Try.prog 16 #[.string ⟨ports.toArray⟩, .string sub] w fun e w' => e = .returned (.bool (Lib.contains ports sub.data.toList)) ∧ w' = w := by
  have h := Try.strings_Contains ⟨ports.toArray⟩ sub m w (by have := ports_size; show ports.toArray.size < 4294967281; simp; omega) hm
  exact h

theorem join_os (s : ByteArray) : ((⟨#[10]⟩ : ByteArray) ++ s ++ (⟨#[47]⟩ : ByteArray)).data.toList = 10 :: s.data.toList ++ [47] := by
  simp
theorem join_arch (s : ByteArray) : ((⟨#[47]⟩ : ByteArray) ++ s ++ (⟨#[10]⟩ : ByteArray)).data.toList = 47 :: s.data.toList ++ [10] := by
  simp

set_option maxRecDepth 100000 in
set_option maxHeartbeats 1000000 in
theorem known12 (s : ByteArray) (m : Int) (w : World) (hs : s.size ≤ 65536) (hm : w.cell? ⟨0, 0, none⟩ = some (.int .i64 m)) :
    Calls Try.prog 12 #[.string s] w fun e w' => e = .returned (.bool (isOS s.data.toList)) ∧ Below w.heap.size w w' := by
  cases hp : plain s.data.toList with
  | false =>
    have HR : Hid (isOS s.data.toList = false) := (by rw [← known_os, hp]; rfl : isOS s.data.toList = false)
    go_enter Try.func12, Try.ntmps12
    go_wp2_with (go_at_call 15; refine (plain15 s _ hs).mono ?_; rintro e w' ⟨rfl, hb⟩)
    go_ret
    exact ⟨by rw [HR.out]; rfl, hb⟩
  | true =>
    have HR : Hid (Lib.contains ports ((⟨#[10]⟩ : ByteArray) ++ s ++ (⟨#[47]⟩ : ByteArray)).data.toList = isOS s.data.toList) := (by rw [← known_os, hp, join_os, Bool.true_and] : Lib.contains ports ((⟨#[10]⟩ : ByteArray) ++ s ++ (⟨#[47]⟩ : ByteArray)).data.toList = isOS s.data.toList)
    go_enter Try.func12, Try.ntmps12
    go_wp2_with (first
      | (go_at_call 15; refine (plain15 s _ hs).mono ?_; rintro e w' ⟨rfl, hb⟩; have hm' := cell_later hb hm)
      | (go_at_call 16; refine (contains_ports _ m _ hm').mono ?_; rintro e w'' ⟨rfl, rfl⟩))
    go_ret
    exact ⟨by rw [← HR.out]; rfl, hb⟩

set_option maxRecDepth 100000 in
set_option maxHeartbeats 1000000 in
theorem known13 (s : ByteArray) (m : Int) (w : World) (hs : s.size ≤ 65536) (hm : w.cell? ⟨0, 0, none⟩ = some (.int .i64 m)) :
    Calls Try.prog 13 #[.string s] w fun e w' => e = .returned (.bool (isArch s.data.toList)) ∧ Below w.heap.size w w' := by
  cases hp : plain s.data.toList with
  | false =>
    have HR : Hid (isArch s.data.toList = false) := (by rw [← known_arch, hp]; rfl : isArch s.data.toList = false)
    go_enter Try.func13, Try.ntmps13
    go_wp2_with (go_at_call 15; refine (plain15 s _ hs).mono ?_; rintro e w' ⟨rfl, hb⟩)
    go_ret
    exact ⟨by rw [HR.out]; rfl, hb⟩
  | true =>
    have HR : Hid (Lib.contains ports ((⟨#[47]⟩ : ByteArray) ++ s ++ (⟨#[10]⟩ : ByteArray)).data.toList = isArch s.data.toList) := (by rw [← known_arch, hp, join_arch, Bool.true_and] : Lib.contains ports ((⟨#[47]⟩ : ByteArray) ++ s ++ (⟨#[10]⟩ : ByteArray)).data.toList = isArch s.data.toList)
    go_enter Try.func13, Try.ntmps13
    go_wp2_with (first
      | (go_at_call 15; refine (plain15 s _ hs).mono ?_; rintro e w' ⟨rfl, hb⟩; have hm' := cell_later hb hm)
      | (go_at_call 16; refine (contains_ports _ m _ hm').mono ?_; rintro e w'' ⟨rfl, rfl⟩))
    go_ret
    exact ⟨by rw [← HR.out]; rfl, hb⟩
end Go.Proofs.Qxb6000882a
