/-
  THE PLAIN LAW of FnGlobMatchesElementDP: the rows of the dynamic programme. 'C j': the elements read so far match the name's first j bytes. No Go in sight.
-/
import Derived.Test.Qxb6603803aGlob
namespace Go.Proofs.Qxb6603803a

/-- Is one of C 0 .. C (j - 1) true? -/
def accB (C : Nat → Bool) (j : Nat) : Bool := (List.range j).any C
theorem accB_zero (C : Nat → Bool) : accB C 0 = false := rfl
theorem accB_succ (C : Nat → Bool) (j : Nat) : accB C (j + 1) = (accB C j || C j) := by
  unfold accB; rw [List.range_succ, List.any_append]; simp
theorem accB_iff (C : Nat → Bool) (j : Nat) : accB C j = true ↔ ∃ i, i < j ∧ C i = true := by
  unfold accB
  rw [List.any_eq_true]
  constructor
  · rintro ⟨i, hi, h⟩; exact ⟨i, List.mem_range.1 hi, h⟩
  · rintro ⟨i, hi, h⟩; exact ⟨i, List.mem_range.2 hi, h⟩

/-- The row behind a star. -/
def starR (C : Nat → Bool) (u : Nat) : Bool := accB C (u + 1)
/-- The row behind another element. -/
def elemR (f : Nat → Nat) (n : Nat) (z : Nat → Nat) (q : Nat) (C : Nat → Bool) (u : Nat) : Bool := if u = 0 then false else C (u - 1) && mbB f n q (z (u - 1))

section
variable {f : Nat → Nat} {n : Nat} {z : Nat → Nat} {m : Nat}
/-- What the programme keeps true: the rest matches behind one of the true places just when the whole matches. -/
def DP (f : Nat → Nat) (n : Nat) (z : Nat → Nat) (m q : Nat) (C : Nat → Bool) : Prop := (∃ j, j ≤ m ∧ C j = true ∧ G f n z m q j = true) ↔ G f n z m 0 0 = true

theorem dp_start : DP f n z m 0 (fun j => decide (j = 0)) := by
  unfold DP
  constructor
  · rintro ⟨j, _, hj, hg⟩
    have e := of_decide_eq_true hj
    subst e; exact hg
  · intro hg; exact ⟨0, Nat.zero_le _, rfl, hg⟩
theorem dp_star {q : Nat} {C : Nat → Bool} (H : DP f n z m q C) (h : q < n) (h2 : f q = 42) : DP f n z m (q + 1) (starR C) := by
  unfold DP at H ⊢
  rw [← H]
  constructor
  · rintro ⟨j, hj, hc, hg⟩
    obtain ⟨i, hi, hc'⟩ := (accB_iff C (j + 1)).1 hc
    exact ⟨i, by omega, hc', (G_star h h2).2 ⟨j, by omega, hj, hg⟩⟩
  · rintro ⟨j, hj, hc, hg⟩
    obtain ⟨j', h3, h4, h5⟩ := (G_star h h2).1 hg
    exact ⟨j', h4, (accB_iff C (j' + 1)).2 ⟨j, by omega, hc⟩, h5⟩
theorem dp_elem {q : Nat} {C : Nat → Bool} (H : DP f n z m q C) (h : q < n) (h2 : ¬ f q = 42) : DP f n z m (mbN f n q) (elemR f n z q C) := by
  unfold DP at H ⊢
  rw [← H]
  constructor
  · rintro ⟨j, hj, hc, hg⟩
    unfold elemR at hc
    split at hc
    · cases hc
    · rename_i hj0
      rw [Bool.and_eq_true] at hc
      refine ⟨j - 1, by omega, hc.1, ?_⟩
      rw [G_elem h h2, decide_eq_true (by omega), hc.2, show j - 1 + 1 = j by omega, hg]; rfl
  · rintro ⟨j, hj, hc, hg⟩
    rw [G_elem h h2, Bool.and_eq_true, Bool.and_eq_true] at hg
    have hjm := of_decide_eq_true hg.1.1
    refine ⟨j + 1, by omega, ?_, hg.2⟩
    unfold elemR
    rw [if_neg (by omega), Nat.add_sub_cancel, hc, hg.1.2]; rfl
theorem dp_end {q : Nat} {C : Nat → Bool} (H : DP f n z m q C) (h : ¬ q < n) : C m = G f n z m 0 0 := by
  unfold DP at H
  cases hg : G f n z m 0 0 with
  | true =>
    obtain ⟨j, hj, hc, hj2⟩ := H.2 hg
    rw [G_end h] at hj2
    have e := of_decide_eq_true hj2
    subst e; exact hc
  | false =>
    cases hc : C m with
    | false => rfl
    | true =>
      rw [H.1 ⟨m, Nat.le_refl _, hc, by rw [G_end h]; simp⟩] at hg; cases hg
end
/-- A row matters up to the name's length alone. -/
theorem dp_ext {f : Nat → Nat} {n : Nat} {z : Nat → Nat} {m q : Nat} {C C' : Nat → Bool} (H : DP f n z m q C) (e : ∀ u, u < m + 1 → C u = C' u) : DP f n z m q C' := by
  unfold DP at H ⊢
  rw [← H]
  constructor
  · rintro ⟨j, hj, hc, hg⟩; exact ⟨j, hj, by rw [e j (by omega)]; exact hc, hg⟩
  · rintro ⟨j, hj, hc, hg⟩; exact ⟨j, hj, by rw [← e j (by omega)]; exact hc, hg⟩

/-! ### The inner loops' rows, place by place -/
theorem star_step {C X : Nat → Bool} {y v : Nat} : (if v = y then accB C (y + 1) else if v < y then starR C v else X v) = (if v < y + 1 then starR C v else X v) := by
  by_cases e : v = y
  · subst e; rw [if_pos rfl, if_pos (by omega)]; rfl
  · rw [if_neg e]
    by_cases h : v < y
    · rw [if_pos h, if_pos (by omega)]
    · rw [if_neg h, if_neg (by omega)]
theorem elem_step {E X : Nat → Bool} {y v : Nat} : (if v = y then E y else if v < y then E v else X v) = (if v < y + 1 then E v else X v) := by
  by_cases e : v = y
  · subst e; rw [if_pos rfl, if_pos (by omega)]
  · rw [if_neg e]
    by_cases h : v < y
    · rw [if_pos h, if_pos (by omega)]
    · rw [if_neg h, if_neg (by omega)]
end Go.Proofs.Qxb6603803a
