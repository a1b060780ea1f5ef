/-
  THE PLAIN GLOB: when the pattern from place p on matches the name from place i on; and what matchGlob's loop keeps true. No Go in sight.
  'f', 'n': the pattern's bytes and length; 'z', 'm': the name's.
-/
import Derived.Test.Qxb6603803aModel
namespace Go.Proofs.Qxb6603803a

def gF (f : Nat → Nat) (n : Nat) (z : Nat → Nat) (m : Nat) : Nat → Nat → Nat → Bool
  | 0, _, i => decide (i = m)
  | k + 1, p, i =>
    if p < n then
      if f p = 42 then (List.range (m + 1 - i)).any (fun d => gF f n z m k (p + 1) (i + d))
      else decide (i < m) && mbB f n p (z i) && gF f n z m k (mbN f n p) (i + 1)
    else decide (i = m)
/-- Does the pattern from p on match the name from i on? -/
def G (f : Nat → Nat) (n : Nat) (z : Nat → Nat) (m p i : Nat) : Bool := gF f n z m (n - p) p i

section
variable {f : Nat → Nat} {n : Nat} {z : Nat → Nat} {m : Nat}

theorem gF_end (k p i : Nat) (h : ¬ p < n) : gF f n z m k p i = decide (i = m) := by
  cases k with
  | zero => rfl
  | succ k => rw [gF, if_neg h]
theorem gF_fuel : ∀ k j p i, n - p ≤ k → n - p ≤ j → gF f n z m k p i = gF f n z m j p i := by
  intro k
  induction k with
  | zero => intro j p i hk _; rw [gF_end j p i (by omega)]; rfl
  | succ k ih =>
    intro j p i hk hj
    by_cases h : p < n
    · cases j with
      | zero => omega
      | succ j =>
        rw [gF, gF, if_pos h, if_pos h]
        by_cases h2 : f p = 42
        · rw [if_pos h2, if_pos h2]
          congr 1
          funext d
          exact ih j _ _ (by omega) (by omega)
        · rw [if_neg h2, if_neg h2]
          have := mbN_bd f n p h
          rw [ih j _ _ (by omega) (by omega)]
    · rw [gF_end _ p i h, gF_end _ p i h]
theorem G_end {p i : Nat} (h : ¬ p < n) : G f n z m p i = decide (i = m) := gF_end _ p i h
theorem G_star {p i : Nat} (h : p < n) (h2 : f p = 42) : G f n z m p i = true ↔ ∃ j, i ≤ j ∧ j ≤ m ∧ G f n z m (p + 1) j = true := by
  unfold G
  rw [show n - p = (n - p - 1) + 1 by omega, gF, if_pos h, if_pos h2, List.any_eq_true]
  have e : ∀ j, gF f n z m (n - p - 1) (p + 1) j = gF f n z m (n - (p + 1)) (p + 1) j := fun j => gF_fuel _ _ _ _ (by omega) (by omega)
  constructor
  · rintro ⟨d, hd, hg⟩
    have := List.mem_range.1 hd
    exact ⟨i + d, by omega, by omega, by rw [← e]; exact hg⟩
  · rintro ⟨j, h1, h2, hg⟩
    refine ⟨j - i, List.mem_range.2 (by omega), ?_⟩
    rw [e, show i + (j - i) = j by omega]; exact hg
theorem G_elem {p i : Nat} (h : p < n) (h2 : ¬ f p = 42) : G f n z m p i = (decide (i < m) && mbB f n p (z i) && G f n z m (mbN f n p) (i + 1)) := by
  unfold G
  rw [show n - p = (n - p - 1) + 1 by omega, gF, if_pos h, if_neg h2]
  have := mbN_bd f n p h
  rw [gF_fuel (n - p - 1) (n - mbN f n p) _ _ (by omega) (by omega)]
/-- Beyond the name's end nothing matches. -/
theorem G_past : ∀ k p i, n - p ≤ k → m < i → G f n z m p i = false := by
  intro k
  induction k with
  | zero => intro p i hk hi; rw [G_end (by omega)]; exact decide_eq_false (by omega)
  | succ k ih =>
    intro p i hk hi
    by_cases h : p < n
    · by_cases h2 : f p = 42
      · cases hg : G f n z m p i with
        | false => rfl
        | true =>
          obtain ⟨j, h3, h4, _⟩ := (G_star h h2).1 hg
          omega
      · rw [G_elem h h2, decide_eq_false (by omega)]; rfl
    · rw [G_end h]; exact decide_eq_false (by omega)

/-- What matchGlob's loop keeps true. -/
structure GInv (f : Nat → Nat) (n : Nat) (z : Nat → Nat) (m p i : Nat) (rt : Int) (fr : Nat) : Prop where
  hp : p ≤ n
  hi : i ≤ m
  hf : fr ≤ i
  lo : -1 ≤ rt
  up : rt ≤ p
  A : G f n z m 0 0 = true ↔ (G f n z m p i = true ∨ (0 ≤ rt ∧ ∃ j, fr < j ∧ j ≤ m ∧ G f n z m rt.toNat j = true))
  B : 0 ≤ rt → ∀ d, G f n z m rt.toNat (fr + d) = true → G f n z m p (i + d) = true

theorem inv_start : GInv f n z m 0 0 (-1) 0 := ⟨by omega, by omega, by omega, by omega, by omega, by simp, by omega⟩

theorem inv_star_all {p i : Nat} {rt : Int} {fr : Nat} (H : GInv f n z m p i rt fr) (h : p < n) (h2 : f p = 42) : G f n z m 0 0 = true ↔ G f n z m p i = true := by
  rw [H.A]
  constructor
  · rintro (hg | ⟨h0, j, h3, h4, hg⟩)
    · exact hg
    · have := H.B h0 (j - fr) (by rw [show fr + (j - fr) = j by omega]; exact hg)
      obtain ⟨j', h5, h6, h7⟩ := (G_star h h2).1 this
      exact (G_star h h2).2 ⟨j', by omega, h6, h7⟩
  · exact .inl
theorem inv_star_last {p i : Nat} {rt : Int} {fr : Nat} (H : GInv f n z m p i rt fr) (h : p + 1 = n) (h2 : f p = 42) : G f n z m 0 0 = true := by
  have hi := H.hi
  rw [inv_star_all H (by omega) h2, G_star (by omega) h2]
  exact ⟨m, hi, Nat.le_refl _, by rw [G_end (by omega)]; simp⟩
theorem inv_star {p i : Nat} {rt : Int} {fr : Nat} (H : GInv f n z m p i rt fr) (h : p < n) (h2 : f p = 42) : GInv f n z m (p + 1) i ((p + 1 : Nat) : Int) i := by
  have hi := H.hi
  refine ⟨by omega, hi, Nat.le_refl _, by omega, by omega, ?_, ?_⟩
  · rw [inv_star_all H h h2, G_star h h2, Int.toNat_natCast]
    constructor
    · rintro ⟨j, h3, h4, hg⟩
      by_cases e : j = i
      · subst e; exact .inl hg
      · exact .inr ⟨by omega, j, by omega, h4, hg⟩
    · rintro (hg | ⟨_, j, h3, h4, hg⟩)
      · exact ⟨i, Nat.le_refl _, hi, hg⟩
      · exact ⟨j, by omega, h4, hg⟩
  · intro _ d hg
    rw [Int.toNat_natCast] at hg; exact hg
theorem inv_elem {p i : Nat} {rt : Int} {fr : Nat} (H : GInv f n z m p i rt fr) (h : p < n) (h2 : ¬ f p = 42) (him : i < m) (hm : mbB f n p (z i) = true) : GInv f n z m (mbN f n p) (i + 1) rt fr := by
  have hb := mbN_bd f n p h
  have hf := H.hf
  have up := H.up
  refine ⟨hb.2, by omega, by omega, H.lo, by omega, ?_, ?_⟩
  · rw [H.A, G_elem h h2, decide_eq_true him, hm]; simp
  · intro h0 d hg
    have := H.B h0 d hg
    rw [G_elem h h2] at this
    simp only [Bool.and_eq_true] at this
    rw [show i + 1 + d = i + d + 1 by omega]; exact this.2
/-- No match here. -/
theorem no_end {p i : Nat} (h : ¬ p < n) (him : i < m) : G f n z m p i = false := by rw [G_end h]; exact decide_eq_false (by omega)
theorem no_elem {p i : Nat} (h : p < n) (h2 : ¬ f p = 42) (hm : mbB f n p (z i) = false) : G f n z m p i = false := by rw [G_elem h h2, hm]; simp
theorem inv_no {p i : Nat} {rt : Int} {fr : Nat} (H : GInv f n z m p i rt fr) (hg : G f n z m p i = false) (hr : rt < 0) : G f n z m 0 0 = false := by
  cases h : G f n z m 0 0 with
  | false => rfl
  | true =>
    rcases H.A.1 h with h1 | ⟨h1, _⟩
    · rw [hg] at h1; cases h1
    · omega
theorem inv_retry {p i : Nat} {rt : Int} {fr : Nat} (H : GInv f n z m p i rt fr) (hg : G f n z m p i = false) (hr : 0 ≤ rt) (him : i < m) : GInv f n z m rt.toNat (fr + 1) rt (fr + 1) := by
  have hf := H.hf
  have up := H.up
  have hp := H.hp
  refine ⟨by omega, by omega, Nat.le_refl _, H.lo, by omega, ?_, ?_⟩
  · rw [H.A, hg]
    constructor
    · rintro (h1 | ⟨_, j, h3, h4, h5⟩)
      · cases h1
      · by_cases e : j = fr + 1
        · subst e; exact .inl h5
        · exact .inr ⟨hr, j, by omega, h4, h5⟩
    · rintro (h1 | ⟨_, j, h3, h4, h5⟩)
      · exact .inr ⟨hr, fr + 1, by omega, by omega, h1⟩
      · exact .inr ⟨hr, j, by omega, h4, h5⟩
  · intro _ d h; exact h
theorem inv_exit {p i : Nat} {rt : Int} {fr : Nat} (H : GInv f n z m p i rt fr) (him : ¬ i < m) : G f n z m p m = G f n z m 0 0 := by
  have hi := H.hi
  have e : i = m := by omega
  subst e
  cases h : G f n z i 0 0 with
  | true =>
    rcases H.A.1 h with h1 | ⟨h0, j, h3, h4, h5⟩
    · exact h1
    · have := H.B h0 (j - fr) (by rw [show fr + (j - fr) = j by omega]; exact h5)
      rw [G_past _ p _ (Nat.le_refl _) (by omega)] at this; cases this
  | false =>
    cases h1 : G f n z i p i with
    | false => rfl
    | true => rw [H.A.2 (.inl h1)] at h; cases h
/-! ### The last loop: stars at the end -/
theorem G_skip {p : Nat} (h : p < n) (h2 : f p = 42) : G f n z m (p + 1) m = G f n z m p m := by
  cases h1 : G f n z m p m with
  | true =>
    obtain ⟨j, h3, h4, h5⟩ := (G_star h h2).1 h1
    rw [show j = m by omega] at h5; exact h5
  | false =>
    cases h3 : G f n z m (p + 1) m with
    | false => rfl
    | true => rw [(G_star h h2).2 ⟨m, Nat.le_refl _, Nat.le_refl _, h3⟩] at h1; cases h1
theorem G_last_no {p : Nat} (h : p < n) (h2 : ¬ f p = 42) : G f n z m p m = false := by rw [G_elem h h2]; simp
theorem G_last_end {p : Nat} (h : ¬ p < n) : G f n z m p m = true := by rw [G_end h]; simp
end

/-! ### The measure of the first loop -/
def gM (n m : Nat) (i : Nat) (rt : Int) (fr : Nat) : Nat := (n - (rt + 1).toNat) * ((m + 2) * (m + 2)) + (m - fr) * (m + 2) + (m - i)
theorem gM_elem {n m i : Nat} {rt : Int} {fr : Nat} (h : i < m) : gM n m (i + 1) rt fr < gM n m i rt fr := by unfold gM; omega
theorem gM_retry {n m i : Nat} {rt : Int} {fr : Nat} (h : fr ≤ i) (h2 : i < m) : gM n m (fr + 1) rt (fr + 1) < gM n m i rt fr := by
  unfold gM
  have e : (m - fr) * (m + 2) = (m - (fr + 1)) * (m + 2) + (m + 2) := by
    rw [show m - fr = (m - (fr + 1)) + 1 by omega, Nat.add_mul]; simp
  omega
theorem gM_star {n m p i : Nat} {rt : Int} {fr : Nat} (h : rt ≤ p) (h1 : -1 ≤ rt) (hp : p + 1 < n) : gM n m i ((p + 1 : Nat) : Int) i < gM n m i rt fr := by
  unfold gM
  have e : (n - (rt + 1).toNat) * ((m + 2) * (m + 2)) = (n - (((p + 1 : Nat) : Int) + 1).toNat) * ((m + 2) * (m + 2)) + ((p + 2) - (rt + 1).toNat) * ((m + 2) * (m + 2)) := by
    rw [← Nat.add_mul]; congr 1; omega
  have g : (m + 2) * (m + 2) ≤ ((p + 2) - (rt + 1).toNat) * ((m + 2) * (m + 2)) := by
    have : 1 * ((m + 2) * (m + 2)) ≤ ((p + 2) - (rt + 1).toNat) * ((m + 2) * (m + 2)) := Nat.mul_le_mul_right _ (by omega)
    simpa using this
  have g2 : (m - i) * (m + 2) ≤ m * (m + 2) := Nat.mul_le_mul_right _ (by omega)
  have g3 : (m + 2) * (m + 2) = m * (m + 2) + 2 * (m + 2) := by rw [← Nat.add_mul]
  omega
end Go.Proofs.Qxb6603803a
