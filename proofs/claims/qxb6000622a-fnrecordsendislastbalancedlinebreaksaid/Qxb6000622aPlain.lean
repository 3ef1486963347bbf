/-
  PLAIN LAW for FnRecordsEndIsLastBalancedLineBreak: lists of integers, no Go in sight.
-/
import Derived.Lib.Bytes
import Derived.Lib.Bytealg
namespace Go.Proofs.Qxb6000622a.Plain

/-- How many quotes stand among the first k. -/
def quo (xs : List Int) (k : Nat) : Nat := Lib.countByte (Lib.bytesOf (xs.take k)) 34

/-- Among the first k: just behind the last line break that has an even number of quotes before it; 0 if none. -/
def lastG (xs : List Int) : Nat → Nat
  | 0 => 0
  | k + 1 => if xs.getD k 0 = 10 ∧ quo xs (k + 1) % 2 = 0 then k + 1 else lastG xs k

/-- Among the first k: the last place of c, or -1. -/
def lastIx (xs : List Int) (c : Int) : Nat → Int
  | 0 => -1
  | k + 1 => if xs.getD k 0 = c then (k : Int) else lastIx xs c k

theorem take_succ (xs : List Int) (k : Nat) (h : k < xs.length) : xs.take (k + 1) = xs.take k ++ [xs.getD k 0] := by
  rw [List.take_succ_eq_append_getElem h]
  simp [List.getD, h]

theorem quo_zero (xs : List Int) : quo xs 0 = 0 := by simp [quo, Lib.bytesOf, Lib.countByte]

theorem byte_eq (x c : Int) (h0 : 0 ≤ x) (h1 : x < 256) (hc : c = 34) : (UInt8.ofNat x.toNat = 34) ↔ x = c := by
  subst hc
  constructor
  · intro h
    have e := congrArg UInt8.toNat h
    simp at e
    omega
  · rintro rfl; rfl

theorem quo_succ (xs : List Int) (k : Nat) (h : k < xs.length) (h0 : 0 ≤ xs.getD k 0) (h1 : xs.getD k 0 < 256) :
    quo xs (k + 1) = quo xs k + if xs.getD k 0 = 34 then 1 else 0 := by
  have hb := byte_eq (xs.getD k 0) 34 h0 h1 rfl
  unfold quo
  rw [take_succ xs k h]
  simp only [Lib.bytesOf, Lib.countByte, List.map_append, List.map_cons, List.map_nil, List.count_append, List.count_singleton]
  by_cases e : xs.getD k 0 = 34
  · rw [if_pos e, if_pos (by simpa using hb.2 e)]
  · rw [if_neg e, if_neg (by simpa using fun q => e (hb.1 q))]

theorem quo_le (xs : List Int) (k : Nat) : quo xs k ≤ k := by
  unfold quo Lib.countByte
  refine Nat.le_trans (List.count_le_length) ?_
  simp [Lib.bytesOf]
  omega

/-- the window i .. e -/
theorem quo_window (xs : List Int) (i e : Nat) (h : i ≤ e) :
    quo xs e = quo xs i + Lib.countByte (Lib.bytesOf ((xs.take e).drop i)) 34 := by
  unfold quo Lib.countByte Lib.bytesOf
  rw [← List.count_append, ← List.map_append]
  congr 1
  congr 1
  have : xs.take i = (xs.take e).take i := by rw [List.take_take, Nat.min_eq_left h]
  rw [this, List.take_append_drop]

theorem lastIx_spec (xs : List Int) (c : Int) : ∀ k : Nat,
    (lastIx xs c k = -1 ∧ ∀ j, j < k → xs.getD j 0 ≠ c) ∨
    (∃ i : Nat, i < k ∧ lastIx xs c k = i ∧ xs.getD i 0 = c ∧ ∀ j, i < j → j < k → xs.getD j 0 ≠ c)
  | 0 => .inl ⟨rfl, fun _ h => absurd h (Nat.not_lt_zero _)⟩
  | k + 1 => by
    unfold lastIx
    split
    · rename_i h; exact .inr ⟨k, Nat.lt_succ_self k, rfl, h, fun j h1 h2 => by omega⟩
    · rename_i h
      rcases lastIx_spec xs c k with ⟨e, hn⟩ | ⟨i, hi, e, hc, hn⟩
      · exact .inl ⟨e, fun j hj => by rcases Nat.lt_succ_iff_lt_or_eq.1 hj with h' | rfl; exact hn j h'; exact h⟩
      · exact .inr ⟨i, by omega, e, hc, fun j h1 h2 => by rcases Nat.lt_succ_iff_lt_or_eq.1 h2 with h' | rfl; exact hn j h1 h'; exact h⟩

theorem lastG_none (xs : List Int) : ∀ k : Nat, (∀ j, j < k → xs.getD j 0 ≠ 10) → lastG xs k = 0
  | 0, _ => rfl
  | k + 1, h => by
    unfold lastG
    rw [if_neg (fun q => h k (by omega) q.1)]
    exact lastG_none xs k (fun j hj => h j (by omega))

theorem lastG_skip (xs : List Int) (i : Nat) : ∀ d : Nat, (∀ j, i < j → j < i + 1 + d → xs.getD j 0 ≠ 10) → lastG xs (i + 1 + d) = lastG xs (i + 1)
  | 0, _ => rfl
  | d + 1, h => by
    have e : i + 1 + (d + 1) = (i + 1 + d) + 1 := by omega
    rw [e, lastG, if_neg (fun q => h (i + 1 + d) (by omega) (by omega) q.1)]
    exact lastG_skip xs i d (fun j h1 h2 => h j h1 (by omega))

theorem lastG_le (xs : List Int) : ∀ k : Nat, lastG xs k ≤ k
  | 0 => Nat.le_refl _
  | k + 1 => by
    unfold lastG
    split
    · exact Nat.le_refl _
    · have := lastG_le xs k; omega

/-- The step of the backward scan. -/
theorem lastG_back (xs : List Int) (e i : Nat) (hi : i < e) (he : e ≤ xs.length) (hc : xs.getD i 0 = 10) (hn : ∀ j, i < j → j < e → xs.getD j 0 ≠ 10) :
    lastG xs e = if quo xs i % 2 = 0 then i + 1 else lastG xs i := by
  obtain ⟨d, rfl⟩ : ∃ d, e = i + 1 + d := ⟨e - (i + 1), by omega⟩
  rw [lastG_skip xs i d hn, lastG]
  have hq : quo xs (i + 1) = quo xs i := by
    have := quo_succ xs i (by omega) (by omega) (by omega)
    rw [this, if_neg (by omega)]; rfl
  rw [hq]
  by_cases hp : quo xs i % 2 = 0
  · rw [if_pos ⟨hc, hp⟩, if_pos hp]
  · rw [if_neg (fun q => hp q.2), if_neg hp]

end Go.Proofs.Qxb6000622a.Plain
