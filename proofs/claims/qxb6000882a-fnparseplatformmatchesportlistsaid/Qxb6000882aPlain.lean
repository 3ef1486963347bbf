/-
  PLAIN LAW for the seat 882a: the list of ports, its names, and what a search in it finds. No Go in sight.
-/
import Derived.Lib.IndexMore
namespace Go.Proofs.Qxb6000882a.Plain

/-- The bytes of the program's list of ports: a pair a line. -/
def ports : List UInt8 := [10, 97, 105, 120, 47, 112, 112, 99, 54, 52, 10, 97, 110, 100, 114, 111, 105, 100, 47, 51, 56, 54, 10, 97, 110, 100, 114, 111, 105, 100, 47, 97, 109, 100, 54, 52, 10, 97, 110, 100, 114, 111, 105, 100, 47, 97, 114, 109, 10, 97, 110, 100, 114, 111, 105, 100, 47, 97, 114, 109, 54, 52, 10, 100, 97, 114, 119, 105, 110, 47, 97, 109, 100, 54, 52, 10, 100, 97, 114, 119, 105, 110, 47, 97, 114, 109, 54, 52, 10, 100, 114, 97, 103, 111, 110, 102, 108, 121, 47, 97, 109, 100, 54, 52, 10, 102, 114, 101, 101, 98, 115, 100, 47, 51, 56, 54, 10, 102, 114, 101, 101, 98, 115, 100, 47, 97, 109, 100, 54, 52, 10, 102, 114, 101, 101, 98, 115, 100, 47, 97, 114, 109, 10, 102, 114, 101, 101, 98, 115, 100, 47, 97, 114, 109, 54, 52, 10, 105, 108, 108, 117, 109, 111, 115, 47, 97, 109, 100, 54, 52, 10, 105, 111, 115, 47, 97, 109, 100, 54, 52, 10, 105, 111, 115, 47, 97, 114, 109, 54, 52, 10, 106, 115, 47, 119, 97, 115, 109, 10, 108, 105, 110, 117, 120, 47, 51, 56, 54, 10, 108, 105, 110, 117, 120, 47, 97, 109, 100, 54, 52, 10, 108, 105, 110, 117, 120, 47, 97, 114, 109, 10, 108, 105, 110, 117, 120, 47, 97, 114, 109, 54, 52, 10, 108, 105, 110, 117, 120, 47, 108, 111, 111, 110, 103, 54, 52, 10, 108, 105, 110, 117, 120, 47, 109, 105, 112, 115, 10, 108, 105, 110, 117, 120, 47, 109, 105, 112, 115, 54, 52, 10, 108, 105, 110, 117, 120, 47, 109, 105, 112, 115, 54, 52, 108, 101, 10, 108, 105, 110, 117, 120, 47, 109, 105, 112, 115, 108, 101, 10, 108, 105, 110, 117, 120, 47, 112, 112, 99, 54, 52, 10, 108, 105, 110, 117, 120, 47, 112, 112, 99, 54, 52, 108, 101, 10, 108, 105, 110, 117, 120, 47, 114, 105, 115, 99, 118, 54, 52, 10, 108, 105, 110, 117, 120, 47, 115, 51, 57, 48, 120, 10, 110, 101, 116, 98, 115, 100, 47, 51, 56, 54, 10, 110, 101, 116, 98, 115, 100, 47, 97, 109, 100, 54, 52, 10, 110, 101, 116, 98, 115, 100, 47, 97, 114, 109, 10, 110, 101, 116, 98, 115, 100, 47, 97, 114, 109, 54, 52, 10, 111, 112, 101, 110, 98, 115, 100, 47, 51, 56, 54, 10, 111, 112, 101, 110, 98, 115, 100, 47, 97, 109, 100, 54, 52, 10, 111, 112, 101, 110, 98, 115, 100, 47, 97, 114, 109, 10, 111, 112, 101, 110, 98, 115, 100, 47, 97, 114, 109, 54, 52, 10, 111, 112, 101, 110, 98, 115, 100, 47, 112, 112, 99, 54, 52, 10, 111, 112, 101, 110, 98, 115, 100, 47, 114, 105, 115, 99, 118, 54, 52, 10, 112, 108, 97, 110, 57, 47, 51, 56, 54, 10, 112, 108, 97, 110, 57, 47, 97, 109, 100, 54, 52, 10, 112, 108, 97, 110, 57, 47, 97, 114, 109, 10, 115, 111, 108, 97, 114, 105, 115, 47, 97, 109, 100, 54, 52, 10, 119, 97, 115, 105, 112, 49, 47, 119, 97, 115, 109, 10, 119, 105, 110, 100, 111, 119, 115, 47, 51, 56, 54, 10, 119, 105, 110, 100, 111, 119, 115, 47, 97, 109, 100, 54, 52, 10, 119, 105, 110, 100, 111, 119, 115, 47, 97, 114, 109, 54, 52, 10]

/-- The names of the law's own two tables. -/
def oss : List (List UInt8) := [[97, 105, 120], [97, 110, 100, 114, 111, 105, 100], [100, 97, 114, 119, 105, 110], [100, 114, 97, 103, 111, 110, 102, 108, 121], [102, 114, 101, 101, 98, 115, 100], [105, 108, 108, 117, 109, 111, 115], [105, 111, 115], [106, 115], [108, 105, 110, 117, 120], [110, 101, 116, 98, 115, 100], [111, 112, 101, 110, 98, 115, 100], [112, 108, 97, 110, 57], [115, 111, 108, 97, 114, 105, 115], [119, 97, 115, 105, 112, 49], [119, 105, 110, 100, 111, 119, 115]]
def archs : List (List UInt8) := [[51, 56, 54], [97, 109, 100, 54, 52], [97, 114, 109], [97, 114, 109, 54, 52], [108, 111, 111, 110, 103, 54, 52], [109, 105, 112, 115], [109, 105, 112, 115, 54, 52], [109, 105, 112, 115, 54, 52, 108, 101], [109, 105, 112, 115, 108, 101], [112, 112, 99, 54, 52], [112, 112, 99, 54, 52, 108, 101], [114, 105, 115, 99, 118, 54, 52], [115, 51, 57, 48, 120], [119, 97, 115, 109]]

def isOS (l : List UInt8) : Bool := decide (l ∈ oss)
def isArch (l : List UInt8) : Bool := decide (l ∈ archs)

def okc (c : UInt8) : Bool := (decide (97 ≤ c.toNat) && decide (c.toNat ≤ 122)) || (decide (48 ≤ c.toNat) && decide (c.toNat ≤ 57))
def plain (l : List UInt8) : Bool := !l.isEmpty && l.all okc

/-- What stands between an a and the next b behind it, for every a. -/
def fields (a b : UInt8) : List UInt8 → List (List UInt8)
  | [] => []
  | c :: r => if c = a ∧ b ∈ r then r.takeWhile (fun x => x != b) :: fields a b r else fields a b r

theorem prefix_takeWhile (b : UInt8) : ∀ (name r : List UInt8), b ∉ name → ((name ++ [b]) <+: r ↔ b ∈ r ∧ r.takeWhile (fun x => x != b) = name)
  | [], r, _ => by
    cases r with
    | nil => simp
    | cons c r =>
      by_cases h : c = b
      · subst h; simp
      · simp [h, Ne.symm h]
  | n :: name, r, hb => by
    cases r with
    | nil => simp
    | cons c r =>
      have hn : n ≠ b := fun e => hb (by simp [e])
      have hb' : b ∉ name := fun e => hb (by simp [e])
      have ih := prefix_takeWhile b name r hb'
      rw [List.cons_append, List.cons_prefix_cons, ih]
      constructor
      · rintro ⟨rfl, h1, h2⟩
        refine ⟨by simp [h1], ?_⟩
        rw [List.takeWhile_cons, if_pos (by simpa using hn), h2]
      · rintro ⟨h1, h2⟩
        rw [List.takeWhile_cons] at h2
        by_cases hc : c = b
        · subst hc; simp at h2
        · rw [if_pos (by simpa using hc)] at h2
          have h3 := List.cons.inj h2
          refine ⟨h3.1.symm, ?_, h3.2⟩
          rcases List.mem_cons.1 h1 with e | e
          · exact absurd e.symm hc
          · exact e

theorem mem_fields (a b : UInt8) (name : List UInt8) (hb : b ∉ name) : ∀ s : List UInt8, name ∈ fields a b s ↔ ∃ j, j ≤ s.length ∧ (a :: name ++ [b]) <+: s.drop j
  | [] => by
    simp [fields]
  | c :: r => by
    have ih := mem_fields a b name hb r
    have hp := prefix_takeWhile b name r hb
    have key : name ∈ fields a b (c :: r) ↔ (c = a ∧ (name ++ [b]) <+: r) ∨ name ∈ fields a b r := by
      rw [fields, hp]
      by_cases h : c = a ∧ b ∈ r
      · rw [if_pos h, List.mem_cons]
        constructor
        · rintro (e | e)
          · exact .inl ⟨h.1, h.2, e.symm⟩
          · exact .inr e
        · rintro (⟨_, _, e⟩ | e)
          · exact .inl e.symm
          · exact .inr e
      · rw [if_neg h]
        constructor
        · exact .inr
        · rintro (⟨h1, h2, _⟩ | e)
          · exact absurd ⟨h1, h2⟩ h
          · exact e
    rw [key, ih]
    constructor
    · rintro (⟨rfl, h⟩ | ⟨j, hj, h⟩)
      · exact ⟨0, Nat.zero_le _, by simpa using h⟩
      · exact ⟨j + 1, by simpa using hj, by simpa using h⟩
    · rintro ⟨j, hj, h⟩
      cases j with
      | zero =>
        rw [List.drop_zero, List.cons_append, List.cons_prefix_cons] at h
        exact .inl ⟨h.1.symm, h.2⟩
      | succ j => exact .inr ⟨j, by simpa using hj, by simpa using h⟩

theorem contains_iff (s sub : List UInt8) : Lib.contains s sub = true ↔ ∃ j, j ≤ s.length ∧ sub <+: s.drop j := by
  unfold Lib.contains
  rw [decide_eq_true_eq]
  rcases Lib.index_spec s sub with ⟨h1, h2⟩ | ⟨i, h1, h2, h3, _⟩
  · constructor
    · intro h; omega
    · rintro ⟨j, hj, hp⟩
      have := h2 j hj
      unfold Lib.occAt at this
      rw [List.isPrefixOf_iff_prefix.2 hp] at this
      cases this
  · constructor
    · intro _
      exact ⟨i, h2, List.isPrefixOf_iff_prefix.1 h3⟩
    · intro _; omega

theorem fields_os : (∀ x ∈ fields 10 47 ports, x ∈ oss) ∧ (∀ x ∈ oss, x ∈ fields 10 47 ports) := by decide +kernel
theorem fields_arch : (∀ x ∈ fields 47 10 ports, x ∈ archs) ∧ (∀ x ∈ archs, x ∈ fields 47 10 ports) := by decide +kernel
theorem plain_os : ∀ x ∈ oss, plain x = true := by decide +kernel
theorem plain_arch : ∀ x ∈ archs, plain x = true := by decide +kernel

theorem plain_not {l : List UInt8} (h : plain l = true) (c : UInt8) (hc : okc c = false) : c ∉ l := fun hm => by
  unfold plain at h
  rw [Bool.and_eq_true, List.all_eq_true] at h
  rw [h.2 c hm] at hc
  cases hc

theorem known_os (l : List UInt8) : (plain l && Lib.contains ports (10 :: l ++ [47])) = isOS l := by
  rw [Bool.eq_iff_iff, Bool.and_eq_true, contains_iff]
  unfold isOS
  rw [decide_eq_true_eq]
  constructor
  · rintro ⟨hp, hc⟩
    exact fields_os.1 l ((mem_fields 10 47 l (plain_not hp 47 (by decide)) ports).2 hc)
  · intro h
    have hp := plain_os l h
    exact ⟨hp, (mem_fields 10 47 l (plain_not hp 47 (by decide)) ports).1 (fields_os.2 l h)⟩

theorem known_arch (l : List UInt8) : (plain l && Lib.contains ports (47 :: l ++ [10])) = isArch l := by
  rw [Bool.eq_iff_iff, Bool.and_eq_true, contains_iff]
  unfold isArch
  rw [decide_eq_true_eq]
  constructor
  · rintro ⟨hp, hc⟩
    exact fields_arch.1 l ((mem_fields 47 10 l (plain_not hp 10 (by decide)) ports).2 hc)
  · intro h
    have hp := plain_arch l h
    exact ⟨hp, (mem_fields 47 10 l (plain_not hp 10 (by decide)) ports).1 (fields_arch.2 l h)⟩
end Go.Proofs.Qxb6000882a.Plain
