/-
  The walk of the law FnValueEndFindsTheEndOfAnEscapedString (function 7).
-/
import Derived.WalkKit
import Derived.OpenShut
import Derived.Below
import Derived.Test.Qxb6000696aBody
import Derived.Test.Qxb6000696aWalks
namespace Go.Proofs.Qxb6000696a.fnValueEndFindsTheEndOfAnEscapedString
open Go.RowKit Plain
set_option linter.unusedVariables false

/-- WHAT THE WALK IS TOLD OF A SLICE OF INTEGERS THAT CAME IN: it is nil; or it leads to a row of 'cap' cells, the numbers 'zs' (the first 'len' are its elements, the rest its spare room), each fitting its kind. -/
def IsRow (k : IntKind) (w : World) (a : Option Addr) (len cap : Nat) (zs : List Int) : Prop :=
  (a = none ∧ len = 0 ∧ cap = 0 ∧ zs = []) ∨
  ∃ x, a = some x ∧ len ≤ cap ∧ cap ≤ maxLen ∧ zs.length = cap ∧ (∀ i, i < zs.length → w.cell? (x.add i) = some (.int k (zs.getD i 0))) ∧ ∀ n ∈ zs, (Lit.int k n).wf = true

theorem IsRow.later {k : IntKind} {w w' : World} {a : Option Addr} {len cap : Nat} {zs : List Int} (h : IsRow k w a len cap zs) (hb : Below w.heap.size w w') : IsRow k w' a len cap zs := by
  rcases h with h | ⟨x, e, hl, hm, hz, hc, hw⟩
  · exact .inl h
  · exact .inr ⟨x, e, hl, hm, hz, fun i hi => cell_later hb (hc i hi), hw⟩

theorem clone_held (a : Option Addr) (len cap : Nat) (zs : List Int) (w : World) (h : IsRow .u8 w a len cap zs) (hn : len ≤ 65536) :
    Calls Try.prog 15 #[.slice a len cap] w fun e w' => ∃ (ao : Option Addr) (c : Nat) (xs : List Int), e = .returned (.slice ao len c) ∧ Held w' ao len xs ∧ Below w.heap.size w w' := by
  rcases h with ⟨rfl, rfl, rfl, rfl⟩ | ⟨x, rfl, hl, hm, hz, hcell, hwz⟩
  · refine (clone_nil w).mono ?_
    rintro e w' ⟨rfl, rfl⟩
    exact ⟨none, 0, [], rfl, ⟨rfl, fun i hi => absurd hi (Nat.not_lt_zero _), fun h => absurd h (Nat.not_lt_zero _)⟩, Below.refl _ _⟩
  · refine (clone_row x len cap zs w hl hz (by omega) hcell).mono ?_
    rintro e w' ⟨rfl, hown, hbel, hsz⟩
    have hxl : (zs.take len).length = len := by simp; omega
    refine ⟨_, _, zs.take len, rfl, ⟨hxl, fun i hi => ?_, fun _ => ⟨_, rfl, fun i hi => ?_⟩⟩, hbel⟩
    · have := range_u8 (zs := zs.take len) (fun n hn => hwz n (List.mem_of_mem_take hn)) i
      rw [List.getD_eq_getElem?_getD]; omega
    · rw [hown.cellAt i (by omega)]
      obtain ⟨xs, hxs⟩ : ∃ xs, xs = zs.take len := ⟨_, rfl⟩
      rw [← hxs] at hxl ⊢
      simp [show i < xs.length by omega]

theorem Own.cell {B : Nat} {w : World} {g cap : Nat} {E : List Int} (h : Own B w g cap E) (i : Nat) (hi : i < E.length) : w.cell? ⟨g, i, none⟩ = some (.int .u8 (E.getD i 0)) := by
  unfold Own at h
  rw [h.cellAt i (by omega)]
  simp [hi]

theorem snoc (E : List Int) (k : Nat) (h : k < E.length) : (E.take (k + 1)).map (Value.int .u8) = (E.take k).map (Value.int .u8) ++ [.int .u8 (E.getD k 0)] := by
  have e : E.take (k + 1) = E.take k ++ [E.getD k 0] := by
    rw [List.take_succ_eq_append_getElem h]
    simp [List.getD, h]
  rw [e, List.map_append]
  rfl

theorem snoc1 (E : List Int) (k : Nat) (h : k < E.length) : (34 :: E.take (k + 1)).map (Value.int .u8) = (34 :: E.take k).map (Value.int .u8) ++ [.int .u8 (E.getD k 0)] := by
  rw [List.map_cons, snoc E k h]
  rfl

theorem snoc2 (E R : List Int) (k : Nat) (h : k < R.length) : (34 :: E ++ 34 :: R.take (k + 1)).map (Value.int .u8) = (34 :: E ++ 34 :: R.take k).map (Value.int .u8) ++ [.int .u8 (R.getD k 0)] := by
  rw [List.map_append, snoc1 R k h, List.map_append, List.append_assoc]

theorem end_quote (C n cap : Nat) (E R : List Int) (w : World) (hok : EscOk E) (hn : n = 1 + E.length + 1 + R.length) (hb : n ≤ 1048576) (ho : Own C w C cap (34 :: E ++ 34 :: R)) :
    Calls Try.prog 21 #[.slice (some ⟨C, 0, none⟩) n cap, .int .i64 0] w fun e w' => e = .returned (.tuple #[.int .i64 ((E.length : Int) + 2), .bool true]) ∧ w' = w := by
  have hl : (34 :: E ++ 34 :: R).length = n := by simp; omega
  refine (end_str C n cap 0 (34 :: E ++ 34 :: R) w hl hb (by omega) rfl (fun i hi => Own.cell ho i (by omega))).mono ?_
  rintro e w' ⟨rfl, rfl⟩
  have g := end_quoted (R := R) hok
  refine ⟨?_, rfl⟩
  rw [g.1, g.2]
  have e : ((E.length + 2 : Nat) : Int) = (E.length : Int) + 2 := by omega
  rw [e]

set_option maxHeartbeats 1000000 in
theorem walk (a0 : Option Addr) (len0 cap0 : Nat) (z0 : List Int) (a1 : Option Addr) (len1 cap1 : Nat) (z1 : List Int) (w : World) (w0 : IsRow .u8 w a0 len0 cap0 z0) (w1 : IsRow .u8 w a1 len1 cap1 z1) :
    Calls Try.prog 7 #[.slice a0 len0 cap0, .slice a1 len1 cap1] w fun e w' => e = .returned (.bool true) ∧ Below w.heap.size w w' := by
  have hm0 : len0 ≤ maxLen := by
    rcases w0 with ⟨_, rfl, _⟩ | ⟨_, _, h1, h2, _⟩
    · exact Nat.zero_le _
    · exact Nat.le_trans h1 h2
  have hm1 : len1 ≤ maxLen := by
    rcases w1 with ⟨_, rfl, _⟩ | ⟨_, _, h1, h2, _⟩
    · exact Nat.zero_le _
    · exact Nat.le_trans h1 h2
  unfold maxLen at hm0 hm1
  have W0 : Hid (IsRow .u8 w a0 len0 cap0 z0) := w0
  have W1 : Hid (IsRow .u8 w a1 len1 cap1 z1) := w1
  clear w0 w1
  by_cases hb0 : (65536 : Int) < (len0 : Int)
  · go_enter Try.func7, Try.ntmps7
    go_wp2
    all_goals (go_ret; exact ⟨rfl, Below.refl _ _⟩)
  · by_cases hb1 : (65536 : Int) < (len1 : Int)
    · go_enter Try.func7, Try.ntmps7
      go_wp2
      all_goals (go_ret; exact ⟨rfl, Below.refl _ _⟩)
    · clear hm0 hm1
      have hn0 : len0 ≤ 65536 := by omega
      have hn1 : len1 ≤ 65536 := by omega
      obtain ⟨i0, hi, hz0, hz1, hz2⟩ := info_parts info5
      have t1 : True := trivial
      go_enter Try.func7, Try.ntmps7
      go_wp2_with (first
        | (go_at_call 15; have _t := t1; refine (clone_held a0 len0 cap0 z0 _ W0.out hn0).mono ?_; rintro e wA ⟨aS, cS, S, rfl, hS, bA⟩; clear t1)
        | (go_at_call 15; refine (clone_held a1 len1 cap1 z1 _ (W1.out.later bA) hn1).mono ?_; rintro e wB ⟨aR, cR, R, rfl, hR, bB⟩)
        | (go_at_call 20; refine (body20 aS len0 cS S _ hn0 (hS.later bB)).mono ?_; rintro e wC ⟨E, rfl, hE, hok, hlE, bC, hszC⟩; have q2 : i0.bytes * (E.length + len1 + 2) ≤ 281474976710656 := (by rw [hz2]; omega); have q3 : E.length + len1 + 2 ≤ maxLen := (by unfold maxLen; omega))
        | (at_make; refine wpList_make_own _ rfl _ _ 26 rfl wC.heap.size 5 i0 (.int .u8 0) 1 Try.underlying26 hi hz0 hz1 _ _ _ (E.length + len1 + 2) rfl rfl (by omega) q2 q3 (Nat.le_refl _) ?_; intro wD hD gD)
        | (at_builtin; refine wpList_append_fits _ rfl _ _ 26 rfl wC.heap.size 5 i0 1 Try.underlying26 hi hz1 wC.heap.size 0 (E.length + len1 + 2) [] rfl (hD.alloc _) ⟨_, 0, none⟩ 1 1 [.int .u8 34] rfl rfl (cell_one_new _ _ _) (ints_oneCell .u8 [34]) (by omega) ?_; intro wF hF gF; simp only [Nat.zero_add, List.nil_append] at hF)
        | go_in)
      have bF : Below wC.heap.size wC wF := (((Below.refl _ _).grown gD (Nat.le_refl _) (fun k h => by cases h)).alloc gD.size _).grown gF (by have := gD.size; simp; omega) (fun k h => by cases h; exact Nat.le_refl _)
      have oF : Own wC.heap.size wF wC.heap.size (E.length + len1 + 2) [34] := hF
      have sF := own_lt hF
      have b0C : Below w.heap.size w wC := (bA.trans (bB.mono bA.size)).trans (bC.mono (Nat.le_trans bA.size bB.size))
      have hR' := hR.later bC
      have HOK : Hid (EscOk E) := hok
      have HE : Hid (Own wB.heap.size wC wB.heap.size (6 * len0) E) := hE
      have HR : Hid (Held wC aR len1 R) := hR'
      clear hok hE hR hR' hS bA bB bC gD gF hD hF hszC q2 q3 W0 W1
      go_loopw [6, 7] (fun d i wr => ∃ k : Nat, k ≤ E.length ∧ i = .int .i64 k ∧ d = .slice (some ⟨wC.heap.size, 0, none⟩) (1 + k) (E.length + len1 + 2) ∧ Own wC.heap.size wr wC.heap.size (E.length + len1 + 2) (34 :: E.take k) ∧ Below wC.heap.size wC wr ∧ wC.heap.size < wr.heap.size)
        (fun _ i _ => E.length - (intOf i).toNat)
      case atStart => exact ⟨0, Nat.zero_le _, rfl, rfl, oF, bF, sF⟩
      case round =>
        clear oF bF sF
        obtain ⟨k, hk, rfl, rfl, oF, bF, sF⟩ := hrel
        by_cases hlt : k < E.length
        · have hck := Own.cell (HE.out.later bF) k hlt
          have hx : (34 :: E.take k).length = 1 + k := by simp; omega
          have o1 := oF.form hx
          have HT : Hid ((34 :: E.take (k + 1)).map (Value.int .u8) = (34 :: E.take k).map (Value.int .u8) ++ [.int .u8 (E.getD k 0)]) := snoc1 E k hlt
          have HL : Hid ((34 :: E.take (k + 1)).length = 1 + k + 1) := (by simp; omega : (34 :: E.take (k + 1)).length = 1 + k + 1)
          obtain ⟨v, hv⟩ : ∃ v, v = E.getD k 0 := ⟨_, rfl⟩
          rw [← hv] at hck HT
          clear hv oF hx
          go_wp2_with (at_builtin; refine wpList_append_fits _ rfl _ _ 26 rfl wC.heap.size 5 i0 1 Try.underlying26 hi hz1 wC.heap.size (1 + k) (E.length + len1 + 2) ((34 :: E.take k).map (Value.int .u8)) rfl (o1.alloc _) ⟨_, 0, none⟩ 1 1 [.int .u8 v] rfl rfl (cell_one_new _ _ _) (ints_oneCell .u8 [v]) (by omega) ?_; intro w2 o2 g2)
          go_roundw
          case rel => exact ⟨k + 1, by omega, by go_num, rfl, Own.of o2 HL.out HT.out, (bF.alloc bF.size _).grown g2 (by simp; omega) (fun k h => by cases h; exact Nat.le_refl _), own_lt o2⟩
          case measure => simp [intOf]; omega
        · obtain rfl : k = E.length := by omega
          rw [List.take_of_length_le (Nat.le_refl _)] at oF
          have hx : (34 :: E).length = 1 + E.length := by simp; omega
          have o1 := oF.form hx
          clear oF hx
          go_wp2_with (at_builtin; refine wpList_append_fits _ rfl _ _ 26 rfl wC.heap.size 5 i0 1 Try.underlying26 hi hz1 wC.heap.size (1 + E.length) (E.length + len1 + 2) ((34 :: E).map (Value.int .u8)) rfl (o1.alloc _) ⟨_, 0, none⟩ 1 1 [.int .u8 34] rfl rfl (cell_one_new _ _ _) (ints_oneCell .u8 [34]) (by omega) ?_; intro wG oG gG)
          have bG := (bF.alloc bF.size _).grown gG (by simp; omega) (fun k h => by cases h; exact Nat.le_refl _)
          have sG := own_lt oG
          have oG' : Own wC.heap.size wG wC.heap.size (E.length + len1 + 2) (34 :: E ++ 34 :: R.take 0) := Own.of oG (by simp; omega) (by simp)
          clear o1 bF sF gG oG
          go_loopw [6, 8] (fun d i wi => ∃ k : Nat, k ≤ len1 ∧ i = .int .i64 k ∧ d = .slice (some ⟨wC.heap.size, 0, none⟩) (1 + E.length + 1 + k) (E.length + len1 + 2) ∧ Own wC.heap.size wi wC.heap.size (E.length + len1 + 2) (34 :: E ++ 34 :: R.take k) ∧ Below wC.heap.size wC wi ∧ wC.heap.size < wi.heap.size)
            (fun _ i _ => len1 - (intOf i).toNat)
          case atStart => exact ⟨0, Nat.zero_le _, rfl, rfl, oG', bG, sG⟩
          case round =>
            clear oG' bG sG
            obtain ⟨k, hk1, rfl, rfl, oF, bF, sF⟩ := hrel
            have hRl := HR.out.1
            by_cases hlt1 : k < len1
            · obtain ⟨B, rfl, hc⟩ := (HR.out.later bF).2.2 (by omega)
              have hck := hc k hlt1
              have hkR : k < R.length := by omega
              have hx : (34 :: E ++ 34 :: R.take k).length = 1 + E.length + 1 + k := by simp; omega
              have o1 := oF.form hx
              have HT : Hid ((34 :: E ++ 34 :: R.take (k + 1)).map (Value.int .u8) = (34 :: E ++ 34 :: R.take k).map (Value.int .u8) ++ [.int .u8 (R.getD k 0)]) := snoc2 E R k hkR
              have HL : Hid ((34 :: E ++ 34 :: R.take (k + 1)).length = 1 + E.length + 1 + k + 1) := (by simp; omega : (34 :: E ++ 34 :: R.take (k + 1)).length = 1 + E.length + 1 + k + 1)
              obtain ⟨v, hv⟩ : ∃ v, v = R.getD k 0 := ⟨_, rfl⟩
              rw [← hv] at hck HT
              clear hv oF hx hc hkR hRl
              go_wp2_with (at_builtin; refine wpList_append_fits _ rfl _ _ 26 rfl wC.heap.size 5 i0 1 Try.underlying26 hi hz1 wC.heap.size (1 + E.length + 1 + k) (E.length + len1 + 2) ((34 :: E ++ 34 :: R.take k).map (Value.int .u8)) rfl (o1.alloc _) ⟨_, 0, none⟩ 1 1 [.int .u8 v] rfl rfl (cell_one_new _ _ _) (ints_oneCell .u8 [v]) (by omega) ?_; intro w2 o2 g2)
              go_roundw
              case rel => exact ⟨k + 1, by omega, by go_num, rfl, Own.of o2 HL.out HT.out, (bF.alloc bF.size _).grown g2 (by simp; omega) (fun k h => by cases h; exact Nat.le_refl _), own_lt o2⟩
              case measure => simp [intOf]; omega
            · obtain rfl : k = len1 := by omega
              rw [List.take_of_length_le (by omega)] at oF
              have HRl : Hid (R.length = k) := hRl
              have HO : Hid (Own wC.heap.size wr wC.heap.size (E.length + k + 2) (34 :: E ++ 34 :: R)) := oF
              clear hRl oF
              go_wp2_with (go_at_call 21; refine (end_quote wC.heap.size _ _ E R _ HOK.out (by rw [HRl.out]) (by omega) HO.out).mono ?_; rintro e w' ⟨rfl, rfl⟩)
              go_ret
              refine ⟨?_, b0C.trans (bF.mono b0C.size)⟩
              simp
end Go.Proofs.Qxb6000696a.fnValueEndFindsTheEndOfAnEscapedString
