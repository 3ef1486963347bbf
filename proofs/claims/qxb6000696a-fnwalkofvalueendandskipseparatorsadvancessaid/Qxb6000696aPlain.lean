/-
  PLAIN LAWS for the seat 696a: the scan of a JSON string's body, over lists of integers; no Go in sight.
-/
namespace Go.Proofs.Qxb6000696a.Plain

/-- How many bytes a string's text takes, its closing quote with it; none where it is not closed. -/
def strScan : List Int → Option Nat
  | [] => none
  | [c] => if c = 34 then some 1 else none
  | c :: d :: r => if c = 92 then (strScan r).map (· + 2) else if c = 34 then some 1 else (strScan (d :: r)).map (· + 1)

theorem strScan_cons (c : Int) (t : List Int) :
    strScan (c :: t) = if c = 92 then (strScan (t.drop 1)).map (· + 2) else if c = 34 then some 1 else (strScan t).map (· + 1) := by
  cases t with
  | nil =>
    simp only [strScan, List.drop_nil, Option.map_none]
    by_cases h : c = 92
    · subst h; simp
    · simp [h]
  | cons d r => simp only [strScan, List.drop_succ_cons, List.drop_zero]

theorem strScan_bd : ∀ (n : Nat) (l : List Int) (m : Nat), l.length ≤ n → strScan l = some m → 1 ≤ m ∧ m ≤ l.length
  | 0, [], _, _, h => by simp [strScan] at h
  | 0, _ :: _, _, h, _ => by simp at h
  | n + 1, [], _, _, h => by simp [strScan] at h
  | n + 1, c :: t, m, hl, h => by
    rw [strScan_cons] at h
    simp only [List.length_cons] at hl ⊢
    by_cases h92 : c = 92
    · rw [if_pos h92] at h
      obtain ⟨k, hk, rfl⟩ := Option.map_eq_some_iff.1 h
      have := strScan_bd n (t.drop 1) k (by simp; omega) hk
      simp at this
      omega
    · rw [if_neg h92] at h
      by_cases h34 : c = 34
      · rw [if_pos h34] at h
        simp at h
        omega
      · rw [if_neg h34] at h
        obtain ⟨k, hk, rfl⟩ := Option.map_eq_some_iff.1 h
        have := strScan_bd n t k (by omega) hk
        omega

/-- The scan from place j on, told from place j0. -/
def At (xs : List Int) (j0 j : Nat) : Prop := strScan (xs.drop j0) = (strScan (xs.drop j)).map (· + (j - j0))

theorem At_refl (xs : List Int) (j0 : Nat) : At xs j0 j0 := by
  unfold At
  rw [Nat.sub_self]
  cases strScan (xs.drop j0) <;> rfl

theorem drop_at (xs : List Int) (j : Nat) (h : j < xs.length) : xs.drop j = xs.getD j 0 :: xs.drop (j + 1) := by
  rw [List.drop_eq_getElem_cons h]
  simp [List.getD, h]

theorem At_esc {xs : List Int} {j0 j : Nat} (h : At xs j0 j) (h0 : j0 ≤ j) (hj : j < xs.length) (hc : xs.getD j 0 = 92) : At xs j0 (j + 2) := by
  unfold At at *
  rw [h, drop_at xs j hj, strScan_cons, if_pos hc, List.drop_drop, Option.map_map]
  have e : j + 1 + 1 = j + 2 := rfl
  rw [e]
  congr 1
  funext x
  simp only [Function.comp]
  omega

theorem At_step {xs : List Int} {j0 j : Nat} (h : At xs j0 j) (h0 : j0 ≤ j) (hj : j < xs.length) (h1 : xs.getD j 0 ≠ 92) (h2 : xs.getD j 0 ≠ 34) : At xs j0 (j + 1) := by
  unfold At at *
  rw [h, drop_at xs j hj, strScan_cons, if_neg h1, if_neg h2, Option.map_map]
  congr 1
  funext x
  simp only [Function.comp]
  omega

theorem At_quote {xs : List Int} {j0 j : Nat} (h : At xs j0 j) (h0 : j0 ≤ j) (hj : j < xs.length) (h2 : xs.getD j 0 = 34) : strScan (xs.drop j0) = some (j + 1 - j0) := by
  unfold At at h
  rw [h, drop_at xs j hj, strScan_cons, if_neg (by omega), if_pos h2]
  simp
  omega

theorem At_end {xs : List Int} {j0 j : Nat} (h : At xs j0 j) (hj : xs.length ≤ j) : strScan (xs.drop j0) = none := by
  unfold At at h
  rw [h, List.drop_eq_nil_of_le hj]
  rfl

/-- What valueEnd gives at a string that opens at i. -/
def endNum (xs : List Int) (i : Nat) : Nat := match strScan (xs.drop (i + 1)) with | some m => i + 1 + m | none => 0
def endOk (xs : List Int) (i : Nat) : Bool := (strScan (xs.drop (i + 1))).isSome

theorem end_some {xs : List Int} {i m : Nat} (h : strScan (xs.drop (i + 1)) = some m) : endNum xs i = i + 1 + m ∧ endOk xs i = true := by
  unfold endNum endOk; rw [h]; exact ⟨rfl, rfl⟩
theorem end_none {xs : List Int} {i : Nat} (h : strScan (xs.drop (i + 1)) = none) : endNum xs i = 0 ∧ endOk xs i = false := by
  unfold endNum endOk; rw [h]; exact ⟨rfl, rfl⟩

/-- The text E is passed over whole by the scan. -/
def EscOk (E : List Int) : Prop := ∀ t, strScan (E ++ t) = (strScan t).map (· + E.length)

theorem escOk_nil : EscOk [] := fun t => by cases h : strScan t <;> simp [h]

theorem escOk_append {A B : List Int} (ha : EscOk A) (hb : EscOk B) : EscOk (A ++ B) := fun t => by
  rw [List.append_assoc, ha, hb, Option.map_map]
  congr 1
  funext x
  simp only [Function.comp, List.length_append]
  omega

theorem escOk_one {b : Int} (h1 : b ≠ 92) (h2 : b ≠ 34) : EscOk [b] := fun t => by
  rw [List.singleton_append, strScan_cons, if_neg h1, if_neg h2]
  rfl

theorem escOk_two (d : Int) : EscOk [92, d] := fun t => by
  show strScan (92 :: d :: t) = _
  rw [strScan_cons, if_pos rfl]
  rfl

theorem escOk_six {d a b x y : Int} (ha : a ≠ 92 ∧ a ≠ 34) (hb : b ≠ 92 ∧ b ≠ 34) (hx : x ≠ 92 ∧ x ≠ 34) (hy : y ≠ 92 ∧ y ≠ 34) : EscOk [92, d, a, b, x, y] :=
  escOk_append (escOk_two d) (escOk_append (escOk_one ha.1 ha.2) (escOk_append (escOk_one hb.1 hb.2) (escOk_append (escOk_one hx.1 hx.2) (escOk_one hy.1 hy.2))))

/-- What valueEnd gives at a quoted text that is passed over whole. -/
theorem end_quoted {E R : List Int} (h : EscOk E) : endNum (34 :: E ++ 34 :: R) 0 = E.length + 2 ∧ endOk (34 :: E ++ 34 :: R) 0 = true := by
  have e : strScan ((34 :: E ++ 34 :: R).drop (0 + 1)) = some (E.length + 1) := by
    show strScan (E ++ 34 :: R) = _
    rw [h, strScan_cons, if_neg (by omega), if_pos rfl]
    simp
    omega
  have g := end_some e
  exact ⟨by rw [g.1]; omega, g.2⟩

end Go.Proofs.Qxb6000696a.Plain
