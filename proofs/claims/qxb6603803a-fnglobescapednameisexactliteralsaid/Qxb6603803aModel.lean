/-
  THE PLAIN LAW of FnSetMatchesMemberTable: the model's reading of a set (units, then ranges) is matchSet's. No Go in sight.
-/
import Derived.Test.Qxb6603803aPlain
namespace Go.Proofs.Qxb6603803a

/-- Where the members end: modelSetEnd. -/
def enF (f : Nat → Nat) (n : Nat) : Nat → Nat → Nat
  | 0, p => p
  | k + 1, p => if p < n ∧ f p ≠ 93 then enF f n k (sbN f n p) else p
def en (f : Nat → Nat) (n p : Nat) : Nat := enF f n (n - p) p

/-- The units: a byte, and whether it is a bare '-'. -/
def unF (f : Nat → Nat) (n : Nat) : Nat → Nat → List (Nat × Bool)
  | 0, _ => []
  | k + 1, p => if p < n ∧ f p ≠ 93 then (sbB f n p, decide (f p = 45)) :: unF f n k (sbN f n p) else []
def un (f : Nat → Nat) (n p : Nat) : List (Nat × Bool) := unF f n (n - p) p

def rng (lo hi v : Nat) : Bool := decide (min lo hi ≤ v ∧ v ≤ max lo hi)

/-- Is v in the set that the units make? -/
def mem : List (Nat × Bool) → Nat → Bool
  | [], _ => false
  | [a], v => rng a.1 a.1 v
  | [a, b], v => rng a.1 a.1 v || rng b.1 b.1 v
  | a :: b :: c :: r, v => if b.2 = true then rng a.1 c.1 v || mem r v else rng a.1 a.1 v || mem (b :: c :: r) v

theorem enF_stop (f : Nat → Nat) (n k p : Nat) (h : ¬ (p < n ∧ f p ≠ 93)) : enF f n k p = p := by
  cases k with
  | zero => rfl
  | succ k => rw [enF, if_neg h]
theorem unF_stop (f : Nat → Nat) (n k p : Nat) (h : ¬ (p < n ∧ f p ≠ 93)) : unF f n k p = [] := by
  cases k with
  | zero => rfl
  | succ k => rw [unF, if_neg h]
theorem enF_fuel (f : Nat → Nat) (n : Nat) : ∀ k j p, n - p ≤ k → n - p ≤ j → enF f n k p = enF f n j p := by
  intro k
  induction k with
  | zero => intro j p hk _; rw [enF_stop f n j p (by omega)]; rfl
  | succ k ih =>
    intro j p hk hj
    by_cases h : p < n ∧ f p ≠ 93
    · cases j with
      | zero => omega
      | succ j =>
        rw [enF, enF, if_pos h, if_pos h]
        have := sbN_gt f n p
        exact ih j _ (by omega) (by omega)
    · rw [enF_stop f n _ p h, enF_stop f n _ p h]
theorem unF_fuel (f : Nat → Nat) (n : Nat) : ∀ k j p, n - p ≤ k → n - p ≤ j → unF f n k p = unF f n j p := by
  intro k
  induction k with
  | zero => intro j p hk _; rw [unF_stop f n j p (by omega)]; rfl
  | succ k ih =>
    intro j p hk hj
    by_cases h : p < n ∧ f p ≠ 93
    · cases j with
      | zero => omega
      | succ j =>
        rw [unF, unF, if_pos h, if_pos h]
        have := sbN_gt f n p
        rw [ih j _ (by omega) (by omega)]
    · rw [unF_stop f n _ p h, unF_stop f n _ p h]
theorem en_stop {f : Nat → Nat} {n p : Nat} (h : ¬ (p < n ∧ f p ≠ 93)) : en f n p = p := enF_stop f n _ p h
theorem un_stop {f : Nat → Nat} {n p : Nat} (h : ¬ (p < n ∧ f p ≠ 93)) : un f n p = [] := unF_stop f n _ p h
theorem en_step {f : Nat → Nat} {n p : Nat} (h : p < n ∧ f p ≠ 93) : en f n p = en f n (sbN f n p) := by
  unfold en
  rw [show n - p = (n - p - 1) + 1 by omega, enF, if_pos h]
  have := sbN_gt f n p
  exact enF_fuel f n _ _ _ (by omega) (by omega)
theorem un_step {f : Nat → Nat} {n p : Nat} (h : p < n ∧ f p ≠ 93) : un f n p = (sbB f n p, decide (f p = 45)) :: un f n (sbN f n p) := by
  unfold un
  rw [show n - p = (n - p - 1) + 1 by omega, unF, if_pos h]
  have := sbN_gt f n p
  rw [unF_fuel f n _ (n - sbN f n p) _ (by omega) (by omega)]
theorem enF_bd (f : Nat → Nat) (n : Nat) : ∀ k p, p ≤ n → p ≤ enF f n k p ∧ enF f n k p ≤ n := by
  intro k
  induction k with
  | zero => intro p h; exact ⟨Nat.le_refl _, h⟩
  | succ k ih =>
    intro p hp
    by_cases h : p < n ∧ f p ≠ 93
    · rw [enF, if_pos h]
      have h1 := sbN_gt f n p
      have h2 := ih _ (sbN_le f n p h.1)
      omega
    · rw [enF_stop f n _ p h]; exact ⟨Nat.le_refl _, hp⟩
theorem en_bd (f : Nat → Nat) (n p : Nat) (h : p ≤ n) : p ≤ en f n p ∧ en f n p ≤ n := enF_bd f n _ p h
/-- On the way to the end: not there yet means: a member starts here. -/
theorem en_lt {f : Nat → Nat} {n p e : Nat} (h : en f n p = e) (hlt : p < e) : p < n ∧ f p ≠ 93 := by
  by_cases c : p < n ∧ f p ≠ 93
  · exact c
  · rw [en_stop c] at h; omega
theorem en_next_le {f : Nat → Nat} {n p e : Nat} (h : en f n p = e) (hlt : p < e) : sbN f n p ≤ e := by
  have c := en_lt h hlt
  rw [en_step c] at h
  have := (en_bd f n (sbN f n p) (sbN_le f n p c.1)).1
  omega
/-- There are no more units than bytes. -/
theorem unF_len (f : Nat → Nat) (n : Nat) : ∀ k p, (unF f n k p).length + p ≤ enF f n k p := by
  intro k
  induction k with
  | zero => intro p; simp [unF, enF]
  | succ k ih =>
    intro p
    by_cases h : p < n ∧ f p ≠ 93
    · rw [unF, enF, if_pos h, if_pos h, List.length_cons]
      have h1 := sbN_gt f n p
      have h2 := ih (sbN f n p)
      omega
    · rw [unF_stop f n _ p h, enF_stop f n _ p h]; simp
theorem un_len (f : Nat → Nat) (n p : Nat) : (un f n p).length + p ≤ en f n p := unF_len f n _ p

theorem mem_cons {a : Nat × Bool} {r : List (Nat × Bool)} {v : Nat} (h : ∀ b c r', r = b :: c :: r' → b.2 = false) : mem (a :: r) v = (rng a.1 a.1 v || mem r v) := by
  match r, h with
  | [], _ => simp [mem]
  | [b], _ => simp [mem]
  | b :: c :: r', h => rw [mem, if_neg (by rw [h b c r' rfl]; exact Bool.noConfusion)]

/-- MATCHSET's LOOP AND THE MODEL. -/
theorem sl_model (f : Nat → Nat) (n c : Nat) : ∀ j q b, n - q ≤ j → sl f n c q b = (en f n q, b || mem (un f n q) c) := by
  intro j
  induction j with
  | zero =>
    intro q b hj
    have h : ¬ (q < n ∧ f q ≠ 93) := by omega
    rw [sl_stop f n c q b h, en_stop h, un_stop h]; simp [mem]
  | succ j ih =>
    intro q b hj
    by_cases h : q < n ∧ f q ≠ 93
    · have g1 := sbN_gt f n q
      have g2 := sbN_le f n q h.1
      rw [sl_step f n c q b h]
      have ga := aft_gt f n q
      rw [ih _ _ (by omega), en_step h, un_step h]
      by_cases hr : isR f n q = true
      · have hr' := hr
        unfold isR at hr'
        obtain ⟨r1, r2, r3⟩ := of_decide_eq_true hr'
        have s1 : sbN f n q < n ∧ f (sbN f n q) ≠ 93 := ⟨by omega, by omega⟩
        have e1 : sbN f n (sbN f n q) = sbN f n q + 1 := by
          generalize sbN f n q = q1 at *
          unfold sbN; rw [if_neg (by omega)]
        have s2 : sbN f n q + 1 < n ∧ f (sbN f n q + 1) ≠ 93 := ⟨r1, r3⟩
        rw [aft_yes hr, en_step s1, un_step s1, e1, en_step s2, un_step s2, r2]
        have hh : hit f n c q = rng (sbB f n q) (sbB f n (sbN f n q + 1)) c := by unfold hit rng; rw [hiB_yes hr]
        rw [hh]
        simp [mem, Bool.or_assoc]
      · have hr0 : isR f n q = false := by simpa using hr
        have hh : hit f n c q = rng (sbB f n q) (sbB f n q) c := by unfold hit rng; rw [hiB_no hr0]
        rw [aft_no hr0, hh, mem_cons]
        · rw [Bool.or_assoc]
        · intro b' c' r' hu
          by_cases s1 : sbN f n q < n ∧ f (sbN f n q) ≠ 93
          · rw [un_step s1] at hu
            injection hu with hb hrest
            subst hb
            show decide (f (sbN f n q) = 45) = false
            apply decide_eq_false
            intro h45
            have e1 : sbN f n (sbN f n q) = sbN f n q + 1 := by
              generalize sbN f n q = q1 at *
              unfold sbN; rw [if_neg (by omega)]
            rw [e1] at hrest
            by_cases s2 : sbN f n q + 1 < n ∧ f (sbN f n q + 1) ≠ 93
            · exact hr (isR_yes s2.1 h45 s2.2)
            · rw [un_stop s2] at hrest; cases hrest
          · rw [un_stop s1] at hu; cases hu
    · rw [sl_stop f n c q b h, en_stop h, un_stop h]; simp [mem]

/-- modelSet: where the element behind the set starts; the table. -/
def mdN (f : Nat → Nat) (n p : Nat) : Nat := past n (en f n (st0 f n p))
def mdT (f : Nat → Nat) (n p v : Nat) : Bool := mem (un f n (st0 f n p)) v != neg f n p

theorem ms_model (f : Nat → Nat) (n p c : Nat) : msN f n p c = mdN f n p ∧ msB f n p c = mdT f n p c := by
  unfold msN msB mdN mdT
  rw [sl_model f n c _ _ _ (Nat.le_refl _)]
  exact ⟨rfl, by simp⟩

/-! ### The second loop: j units behind it -/
def vl (us : List (Nat × Bool)) (j : Nat) : Nat := (us.getD j (0, false)).1
def ds (us : List (Nat × Bool)) (j : Nat) : Bool := (us.getD j (0, false)).2

theorem drop_at (us : List (Nat × Bool)) (j : Nat) (h : j < us.length) : us.drop j = us.getD j (0, false) :: us.drop (j + 1) := by
  rw [List.drop_eq_getElem_cons h, List.getD_eq_getElem?_getD, List.getElem?_eq_getElem h]; rfl

theorem mem_yes {us : List (Nat × Bool)} {j v : Nat} (h : j + 2 < us.length) (hb : ds us (j + 1) = true) : mem (us.drop j) v = (rng (vl us j) (vl us (j + 2)) v || mem (us.drop (j + 3)) v) := by
  rw [drop_at us j (by omega), drop_at us (j + 1) (by omega), drop_at us (j + 1 + 1) (by omega), mem, if_pos (show (us.getD (j + 1) (0, false)).2 = true from hb)]; rfl
theorem mem_no {us : List (Nat × Bool)} {j v : Nat} (h : j < us.length) (hn : ¬ (j + 2 < us.length ∧ ds us (j + 1) = true)) : mem (us.drop j) v = (rng (vl us j) (vl us j) v || mem (us.drop (j + 1)) v) := by
  rw [drop_at us j h, mem_cons]
  · rfl
  · intro b c r' hu
    by_cases h1 : j + 1 < us.length
    · rw [drop_at us (j + 1) h1] at hu
      injection hu with hb hrest
      have h2 : j + 2 < us.length := by
        have := congrArg List.length hrest
        simp [List.length_drop] at this; omega
      subst hb
      show ds us (j + 1) = false
      cases hd : ds us (j + 1) with
      | false => rfl
      | true => exact absurd ⟨h2, hd⟩ hn
    · rw [List.drop_eq_nil_of_le (by omega)] at hu; cases hu

theorem un_end {f : Nat → Nat} {n k e : Nat} (h : en f n k = e) (hk : ¬ k < e) : un f n k = [] := by
  have := un_len f n k
  exact List.eq_nil_of_length_eq_zero (by omega)
theorem sbB_lt {f : Nat → Nat} (hf : ∀ k, f k < 256) (n p : Nat) : sbB f n p < 256 := by unfold sbB; split <;> exact hf _
theorem unF_lt {f : Nat → Nat} (hf : ∀ k, f k < 256) (n : Nat) : ∀ k p, ∀ u ∈ unF f n k p, u.1 < 256 := by
  intro k
  induction k with
  | zero => intro p u hu; cases hu
  | succ k ih =>
    intro p u hu
    rw [unF] at hu
    split at hu
    · rcases List.mem_cons.1 hu with rfl | hu
      · exact sbB_lt hf n p
      · exact ih _ u hu
    · cases hu
theorem vl_lt {f : Nat → Nat} (hf : ∀ k, f k < 256) (n p j : Nat) : vl (un f n p) j < 256 := by
  unfold vl
  rw [List.getD_eq_getElem?_getD]
  cases h : (un f n p)[j]? with
  | none => simp
  | some u => exact unF_lt hf n _ _ u (List.mem_of_getElem? h)

/-- Does a range start at unit j? -/
def rB (us : List (Nat × Bool)) (j : Nat) : Bool := decide (j + 2 < us.length) && ds us (j + 1)
theorem rB_lt {us : List (Nat × Bool)} {j : Nat} (h : j + 2 < us.length) : rB us j = ds us (j + 1) := by unfold rB; rw [decide_eq_true h]; rfl
theorem rB_ge {us : List (Nat × Bool)} {j : Nat} (h : ¬ j + 2 < us.length) : rB us j = false := by unfold rB; rw [decide_eq_false h]; rfl
theorem rB_yes {us : List (Nat × Bool)} {j : Nat} (h : rB us j = true) : j + 2 < us.length ∧ ∀ v, mem (us.drop j) v = (rng (vl us j) (vl us (j + 2)) v || mem (us.drop (j + 3)) v) := by
  unfold rB at h
  rw [Bool.and_eq_true] at h
  have h1 := of_decide_eq_true h.1
  exact ⟨h1, fun v => mem_yes h1 h.2⟩
theorem rB_no {us : List (Nat × Bool)} {j : Nat} (hj : j < us.length) (h : rB us j = false) : ∀ v, mem (us.drop j) v = (rng (vl us j) (vl us j) v || mem (us.drop (j + 1)) v) := by
  intro v
  refine mem_no hj ?_
  rintro ⟨h1, h2⟩
  rw [rB_lt h1, h2] at h
  cases h

/-! ### One element -/
/-- matchByte. -/
def mbN (f : Nat → Nat) (n p : Nat) : Nat := if f p = 63 then p + 1 else if f p = 91 then mdN f n (p + 1) else if f p = 92 ∧ p + 1 < n then p + 2 else p + 1
def mbB (f : Nat → Nat) (n p c : Nat) : Bool := if f p = 63 then true else if f p = 91 then mdT f n (p + 1) c else if f p = 92 ∧ p + 1 < n then decide (f (p + 1) = c) else decide (f p = c)

theorem mdN_bd (f : Nat → Nat) (n p : Nat) (h : p ≤ n) : p ≤ mdN f n p ∧ mdN f n p ≤ n := by
  rw [← (ms_model f n p 0).1]; exact msN_bd f n p 0 h
theorem mbN_bd (f : Nat → Nat) (n p : Nat) (h : p < n) : p < mbN f n p ∧ mbN f n p ≤ n := by
  unfold mbN
  have := mdN_bd f n (p + 1) (by omega)
  split
  · omega
  · split
    · omega
    · split <;> omega
end Go.Proofs.Qxb6603803a
