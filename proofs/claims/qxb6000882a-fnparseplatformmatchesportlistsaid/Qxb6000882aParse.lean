/-
  parsePlatform (10) and ZZParsePlatform (6) by contract.
-/
import Derived.Test.Qxb6000882aNames
import Derived.WalkKit
import Derived.WalkSpells
import Derived.KernelRfl
namespace Go.Proofs.Qxb6000882a
open Go.RowKit Plain

theorem cut_any (s A B : ByteArray) (f : Bool) (m : Int) (w : World) (hs : s.size ≤ 65536) (hm : w.cell? ⟨0, 0, none⟩ = some (.int .i64 m))
    (hA : A = ⟨(Lib.cut s.data.toList [47]).1.toArray⟩) (hB : B = ⟨(Lib.cut s.data.toList [47]).2.1.toArray⟩) (hf : f = (Lib.cut s.data.toList [47]).2.2) :
    Calls Try.prog 11 #[.string s, .string ⟨#[47]⟩] w fun e w' => e = .returned (.tuple #[.string A, .string B, .bool f]) ∧ Below w.heap.size w w' := by
  subst hA hB hf
  refine (Try.strings_Cut s ⟨#[47]⟩ m w (by omega) hm).mono ?_
  rintro e w' ⟨rfl, n, rfl⟩
  exact ⟨rfl, ⟨rfl, rfl, rfl, Nat.le_refl _, fun _ _ => rfl⟩⟩

/-- What is known of the worlds behind the first step: the library's variable, the two cells of the result's own block (S), and all that was there. -/
structure K (S : Nat) (m : Int) (w wx : World) : Prop where
  var : wx.cell? ⟨0, 0, none⟩ = some (.int .i64 m)
  c0 : wx.cell? ⟨S, 0, none⟩ = some (.string ⟨#[]⟩)
  c1 : wx.cell? ⟨S, 1, none⟩ = some (.string ⟨#[]⟩)
  f0 : wx.frozen? ⟨S, 0, none⟩ = false
  f1 : wx.frozen? ⟨S, 1, none⟩ = false
  bel : Below S w wx
  lt : S < wx.heap.size

theorem K.start {m : Int} {w : World} (hm : w.cell? ⟨0, 0, none⟩ = some (.int .i64 m)) : K w.heap.size m w (w.alloc (.cells #[.string ⟨#[]⟩, .string ⟨#[]⟩] 24)) :=
  ⟨cell_later ((Below.refl _ _).alloc (Nat.le_refl _) _) hm, by simp, by simp, by simp, by simp, (Below.refl _ _).alloc (Nat.le_refl _) _, by simp⟩

theorem K.next {S : Nat} {m : Int} {w wx wy : World} (h : K S m w wx) (hb : Below wx.heap.size wx wy) : K S m w wy :=
  ⟨cell_later hb h.var, cell_later hb h.c0, cell_later hb h.c1, (hb.frozen h.lt).trans h.f0, (hb.frozen h.lt).trans h.f1, h.bel.trans (hb.mono (Nat.le_of_lt h.lt)), Nat.lt_of_lt_of_le h.lt hb.size⟩

set_option maxHeartbeats 1000000 in
theorem parse_pair (s A B : ByteArray) (m : Int) (w : World) (hs : s.size ≤ 65536) (hm : w.cell? ⟨0, 0, none⟩ = some (.int .i64 m))
    (hA : A = ⟨(Lib.cut s.data.toList [47]).1.toArray⟩) (hB : B = ⟨(Lib.cut s.data.toList [47]).2.1.toArray⟩) (hf : true = (Lib.cut s.data.toList [47]).2.2) (sA : A.size ≤ 65536) (sB : B.size ≤ 65536) :
    Calls Try.prog 10 #[.string s] w fun e w' => e = .returned (.tuple #[.agg #[.string A, .string B], .bool (isOS A.data.toList && isArch B.data.toList)]) ∧ Below w.heap.size w w' := by
  have HA : Hid (A = ⟨(Lib.cut s.data.toList [47]).1.toArray⟩) := hA
  have HB : Hid (B = ⟨(Lib.cut s.data.toList [47]).2.1.toArray⟩) := hB
  have HF : Hid (true = (Lib.cut s.data.toList [47]).2.2) := hf
  clear hA hB hf
  have k0 := K.start hm
  clear hm
  cases hos : isOS A.data.toList with
  | false =>
    go_enter Try.func10, Try.ntmps10
    go_wp2_with (first
      | (go_at_call 11; refine (cut_any s A B true m _ hs k0.var HA.out HB.out HF.out).mono ?_; rintro e w1 ⟨rfl, b1⟩; have k1 := k0.next b1; clear b1 k0)
      | (go_at_call 12; refine (known12 A m _ sA k1.var).mono ?_; rintro e w2 ⟨rfl, b2⟩; have k2 := k1.next b2; clear b2 k1; have c0 := k2.c0; have c1 := k2.c1; have f0 := k2.f0; have f1 := k2.f1; have lt := k2.lt))
    refine bodyPost_ret (v := .tuple #[.agg #[.string A, .string B], .bool false]) (by simp [results, Try.results10, go_sem, c0, c1]) rfl ⟨rfl, ?_⟩
    exact (k2.bel.setCell (Nat.le_refl _) _).setCell (Nat.le_refl _) _
  | true =>
    go_enter Try.func10, Try.ntmps10
    go_wp2_with (first
      | (go_at_call 11; refine (cut_any s A B true m _ hs k0.var HA.out HB.out HF.out).mono ?_; rintro e w1 ⟨rfl, b1⟩; have k1 := k0.next b1; clear b1 k0)
      | (go_at_call 12; refine (known12 A m _ sA k1.var).mono ?_; rintro e w2 ⟨rfl, b2⟩; have k2 := k1.next b2; clear b2 k1)
      | (go_at_call 13; refine (known13 B m _ sB k2.var).mono ?_; rintro e w3 ⟨rfl, b3⟩; have k3 := k2.next b3; clear b3 k2; have c0 := k3.c0; have c1 := k3.c1; have f0 := k3.f0; have f1 := k3.f1; have lt := k3.lt))
    refine bodyPost_ret (v := .tuple #[.agg #[.string A, .string B], .bool (isArch B.data.toList)]) (by simp [results, Try.results10, go_sem, c0, c1]) rfl ⟨rfl, ?_⟩
    exact (k3.bel.setCell (Nat.le_refl _) _).setCell (Nat.le_refl _) _

/-- The two fields and the answer where text holds no slash. -/
def lone (s : ByteArray) : ByteArray × ByteArray × Bool :=
  if isOS s.data.toList then (s, ⟨#[]⟩, true) else if isArch s.data.toList then (⟨#[]⟩, s, true) else (⟨#[]⟩, ⟨#[]⟩, false)

set_option maxHeartbeats 1000000 in
theorem parse_lone (s : ByteArray) (m : Int) (w : World) (hs : s.size ≤ 65536) (hm : w.cell? ⟨0, 0, none⟩ = some (.int .i64 m)) (hf : false = (Lib.cut s.data.toList [47]).2.2) :
    Calls Try.prog 10 #[.string s] w fun e w' => e = .returned (.tuple #[.agg #[.string (lone s).1, .string (lone s).2.1], .bool (lone s).2.2]) ∧ Below w.heap.size w w' := by
  obtain ⟨A, hA⟩ : ∃ A : ByteArray, A = ⟨(Lib.cut s.data.toList [47]).1.toArray⟩ := ⟨_, rfl⟩
  obtain ⟨B, hB⟩ : ∃ B : ByteArray, B = ⟨(Lib.cut s.data.toList [47]).2.1.toArray⟩ := ⟨_, rfl⟩
  have HA : Hid (A = ⟨(Lib.cut s.data.toList [47]).1.toArray⟩) := hA
  have HB : Hid (B = ⟨(Lib.cut s.data.toList [47]).2.1.toArray⟩) := hB
  have HF : Hid (false = (Lib.cut s.data.toList [47]).2.2) := hf
  clear hA hB hf
  have k0 := K.start hm
  clear hm
  cases hos : isOS s.data.toList with
  | true =>
    have HL : Hid (lone s = (s, ⟨#[]⟩, true)) := (by unfold lone; rw [if_pos hos] : lone s = (s, ⟨#[]⟩, true))
    go_enter Try.func10, Try.ntmps10
    go_wp2_with (first
      | (go_at_call 11; refine (cut_any s A B false m _ hs k0.var HA.out HB.out HF.out).mono ?_; rintro e w1 ⟨rfl, b1⟩; have k1 := k0.next b1; clear b1 k0)
      | (go_at_call 12; refine (known12 s m _ hs k1.var).mono ?_; rintro e w2 ⟨rfl, b2⟩; have k2 := k1.next b2; clear b2 k1; have c0 := k2.c0; have c1 := k2.c1; have f0 := k2.f0; have f1 := k2.f1; have lt := k2.lt))
    refine bodyPost_ret (v := .tuple #[.agg #[.string s, .string ⟨#[]⟩], .bool true]) (by simp [results, Try.results10, go_sem, c0, c1]) rfl ⟨by rw [HL.out], ?_⟩
    exact (k2.bel.setCell (Nat.le_refl _) _).setCell (Nat.le_refl _) _
  | false =>
    cases har : isArch s.data.toList with
    | true =>
      have HL : Hid (lone s = (⟨#[]⟩, s, true)) := (by unfold lone; rw [if_neg (by rw [hos]; decide), if_pos har] : lone s = (⟨#[]⟩, s, true))
      go_enter Try.func10, Try.ntmps10
      go_wp2_with (first
        | (go_at_call 11; refine (cut_any s A B false m _ hs k0.var HA.out HB.out HF.out).mono ?_; rintro e w1 ⟨rfl, b1⟩; have k1 := k0.next b1; clear b1 k0)
        | (go_at_call 12; refine (known12 s m _ hs k1.var).mono ?_; rintro e w2 ⟨rfl, b2⟩; have k2 := k1.next b2; clear b2 k1)
        | (go_at_call 13; refine (known13 s m _ hs k2.var).mono ?_; rintro e w3 ⟨rfl, b3⟩; have k3 := k2.next b3; clear b3 k2; have c0 := k3.c0; have c1 := k3.c1; have f0 := k3.f0; have f1 := k3.f1; have lt := k3.lt))
      refine bodyPost_ret (v := .tuple #[.agg #[.string ⟨#[]⟩, .string s], .bool true]) (by simp [results, Try.results10, go_sem, c0, c1]) rfl ⟨by rw [HL.out], ?_⟩
      exact (k3.bel.setCell (Nat.le_refl _) _).setCell (Nat.le_refl _) _
    | false =>
      have HL : Hid (lone s = (⟨#[]⟩, ⟨#[]⟩, false)) := (by unfold lone; rw [if_neg (by rw [hos]; decide), if_neg (by rw [har]; decide)] : lone s = (⟨#[]⟩, ⟨#[]⟩, false))
      go_enter Try.func10, Try.ntmps10
      go_wp2_with (first
        | (go_at_call 11; refine (cut_any s A B false m _ hs k0.var HA.out HB.out HF.out).mono ?_; rintro e w1 ⟨rfl, b1⟩; have k1 := k0.next b1; clear b1 k0)
        | (go_at_call 12; refine (known12 s m _ hs k1.var).mono ?_; rintro e w2 ⟨rfl, b2⟩; have k2 := k1.next b2; clear b2 k1)
        | (go_at_call 13; refine (known13 s m _ hs k2.var).mono ?_; rintro e w3 ⟨rfl, b3⟩; have k3 := k2.next b3; clear b3 k2; have c0 := k3.c0; have c1 := k3.c1; have f0 := k3.f0; have f1 := k3.f1; have lt := k3.lt))
      refine bodyPost_ret (v := .tuple #[.agg #[.string ⟨#[]⟩, .string ⟨#[]⟩], .bool false]) (by simp [results, Try.results10, go_sem, c0, c1]) rfl ⟨by rw [HL.out], ?_⟩
      exact (k3.bel.setCell (Nat.le_refl _) _).setCell (Nat.le_refl _) _

/-- ZZParsePlatform hands parsePlatform's answer on. -/
theorem zz6 (s X Y : ByteArray) (ok : Bool) (m : Int) (w : World) (hm : w.cell? ⟨0, 0, none⟩ = some (.int .i64 m))
    (h : ∀ wx : World, wx.cell? ⟨0, 0, none⟩ = some (.int .i64 m) → Calls Try.prog 10 #[.string s] wx fun e w' => e = .returned (.tuple #[.agg #[.string X, .string Y], .bool ok]) ∧ Below wx.heap.size wx w') :
    Calls Try.prog 6 #[.string s] w fun e w' => e = .returned (.tuple #[.agg #[.string X, .string Y], .bool ok]) ∧ Below w.heap.size w w' := by
  have k0 := K.start hm
  clear hm
  have HH : Hid _ := h
  clear h
  go_enter Try.func6, Try.ntmps6
  go_wp2_with (go_at_call 10; refine (HH.out _ k0.var).mono ?_; rintro e w1 ⟨rfl, b1⟩; have k1 := k0.next b1; clear b1 k0; have c0 := k1.c0; have c1 := k1.c1; have f0 := k1.f0; have f1 := k1.f1; have lt := k1.lt)
  refine bodyPost_ret (v := .tuple #[.agg #[.string X, .string Y], .bool ok]) (by simp [results, Try.results6, go_sem, c0, c1]) rfl ⟨rfl, ?_⟩
  exact (k1.bel.setCell (Nat.le_refl _) _).setCell (Nat.le_refl _) _
end Go.Proofs.Qxb6000882a
