/-
  THE PLAIN FUNCTIONS: what matchSet, matchByte and their helpers compute, over a byte function 'f' and a length 'n'. No Go in sight.
-/
namespace Go.Proofs.Qxb6603803a

/-- The byte at place k of a string (0 beyond its end). -/
def bt (s : ByteArray) (k : Nat) : Nat := (s.data.getD k 0).toNat

theorem bt_eq (s : ByteArray) (k : Nat) (h : k < s.size) : (s[k]'h).toNat = bt s k := by
  unfold bt
  have h' : k < s.data.size := h
  have e : s.data.getD k 0 = s.data[k] := by unfold Array.getD; exact dif_pos h'
  rw [e]; rfl

theorem bt_lt (s : ByteArray) (k : Nat) : bt s k < 256 := by
  unfold bt; exact UInt8.toNat_lt _

/-- setByte: the byte, and the next place. -/
def sbB (f : Nat → Nat) (n p : Nat) : Nat := if f p = 92 ∧ p + 1 < n then f (p + 1) else f p
def sbN (f : Nat → Nat) (n p : Nat) : Nat := if f p = 92 ∧ p + 1 < n then p + 2 else p + 1

/-- Is there a range at the member p? -/
def isR (f : Nat → Nat) (n p : Nat) : Bool := decide (sbN f n p + 1 < n ∧ f (sbN f n p) = 45 ∧ f (sbN f n p + 1) ≠ 93)
/-- The other end of the member at p. -/
def hiB (f : Nat → Nat) (n p : Nat) : Nat := if isR f n p = true then sbB f n (sbN f n p + 1) else sbB f n p
/-- Where the member behind the one at p starts. -/
def aft (f : Nat → Nat) (n p : Nat) : Nat := if isR f n p = true then sbN f n (sbN f n p + 1) else sbN f n p
/-- Is c in the member at p? -/
def hit (f : Nat → Nat) (n c p : Nat) : Bool := decide (min (sbB f n p) (hiB f n p) ≤ c ∧ c ≤ max (sbB f n p) (hiB f n p))

theorem sbN_gt (f : Nat → Nat) (n p : Nat) : p < sbN f n p := by unfold sbN; split <;> omega
theorem sbN_le (f : Nat → Nat) (n p : Nat) (h : p < n) : sbN f n p ≤ n := by unfold sbN; split <;> omega
theorem aft_gt (f : Nat → Nat) (n p : Nat) : p < aft f n p := by
  unfold aft; have := sbN_gt f n p; have := sbN_gt f n (sbN f n p + 1); split <;> omega
theorem aft_le (f : Nat → Nat) (n p : Nat) (h : p < n) : aft f n p ≤ n := by
  unfold aft
  split
  · rename_i hr
    unfold isR at hr
    have hr' := of_decide_eq_true hr
    exact sbN_le f n _ hr'.1
  · exact sbN_le f n p h

/-- The loop of matchSet, with fuel: where the members end, and whether one of them held c. -/
def slF (f : Nat → Nat) (n c : Nat) : Nat → Nat → Bool → Nat × Bool
  | 0, p, b => (p, b)
  | k + 1, p, b => if p < n ∧ f p ≠ 93 then slF f n c k (aft f n p) (b || hit f n c p) else (p, b)
def sl (f : Nat → Nat) (n c p : Nat) (b : Bool) : Nat × Bool := slF f n c (n - p) p b

theorem slF_stop (f : Nat → Nat) (n c k p : Nat) (b : Bool) (h : ¬ (p < n ∧ f p ≠ 93)) : slF f n c k p b = (p, b) := by
  cases k with
  | zero => rfl
  | succ k => rw [slF, if_neg h]

theorem slF_fuel (f : Nat → Nat) (n c : Nat) : ∀ k j p b, n - p ≤ k → n - p ≤ j → slF f n c k p b = slF f n c j p b := by
  intro k
  induction k with
  | zero =>
    intro j p b hk _
    rw [slF_stop f n c j p b (by omega)]; rfl
  | succ k ih =>
    intro j p b hk hj
    by_cases h : p < n ∧ f p ≠ 93
    · cases j with
      | zero => omega
      | succ j =>
        rw [slF, slF, if_pos h, if_pos h]
        have := aft_gt f n p
        exact ih j _ _ (by omega) (by omega)
    · rw [slF_stop f n c _ p b h, slF_stop f n c _ p b h]

theorem sl_stop (f : Nat → Nat) (n c p : Nat) (b : Bool) (h : ¬ (p < n ∧ f p ≠ 93)) : sl f n c p b = (p, b) := slF_stop f n c _ p b h

theorem sl_step (f : Nat → Nat) (n c p : Nat) (b : Bool) (h : p < n ∧ f p ≠ 93) : sl f n c p b = sl f n c (aft f n p) (b || hit f n c p) := by
  unfold sl
  have e : n - p = (n - p - 1) + 1 := by omega
  rw [e, slF, if_pos h]
  have := aft_gt f n p
  exact slF_fuel f n c _ _ _ _ (by omega) (by omega)

/-- matchSet. -/
def neg (f : Nat → Nat) (n p : Nat) : Bool := decide (p < n ∧ f p = 94)
def st0 (f : Nat → Nat) (n p : Nat) : Nat := if neg f n p = true then p + 1 else p
def past (n p : Nat) : Nat := if p < n then p + 1 else p
def msN (f : Nat → Nat) (n p c : Nat) : Nat := past n (sl f n c (st0 f n p) false).1
def msB (f : Nat → Nat) (n p c : Nat) : Bool := (sl f n c (st0 f n p) false).2 != neg f n p

theorem neg_yes {f : Nat → Nat} {n p : Nat} (h1 : p < n) (h2 : f p = 94) : neg f n p = true := decide_eq_true ⟨h1, h2⟩
theorem neg_no {f : Nat → Nat} {n p : Nat} (h : ¬ (p < n ∧ f p = 94)) : neg f n p = false := decide_eq_false h
theorem st0_yes {f : Nat → Nat} {n p : Nat} (h : neg f n p = true) : st0 f n p = p + 1 := by unfold st0; rw [if_pos h]
theorem st0_no {f : Nat → Nat} {n p : Nat} (h : neg f n p = false) : st0 f n p = p := by unfold st0; rw [h]; rfl

/-! ### The round of matchSet's loop, way by way -/
theorem isR_yes {f : Nat → Nat} {n k : Nat} (r1 : sbN f n k + 1 < n) (r2 : f (sbN f n k) = 45) (r3 : ¬ f (sbN f n k + 1) = 93) : isR f n k = true := decide_eq_true ⟨r1, r2, r3⟩
theorem isR_no {f : Nat → Nat} {n k : Nat} (r : ¬ (sbN f n k + 1 < n ∧ f (sbN f n k) = 45 ∧ f (sbN f n k + 1) ≠ 93)) : isR f n k = false := decide_eq_false r
theorem aft_yes {f : Nat → Nat} {n k : Nat} (h : isR f n k = true) : aft f n k = sbN f n (sbN f n k + 1) := by unfold aft; rw [if_pos h]
theorem aft_no {f : Nat → Nat} {n k : Nat} (h : isR f n k = false) : aft f n k = sbN f n k := by unfold aft; rw [h]; rfl
theorem hiB_yes {f : Nat → Nat} {n k : Nat} (h : isR f n k = true) : hiB f n k = sbB f n (sbN f n k + 1) := by unfold hiB; rw [if_pos h]
theorem hiB_no {f : Nat → Nat} {n k : Nat} (h : isR f n k = false) : hiB f n k = sbB f n k := by unfold hiB; rw [h]; rfl

theorem sl_go {f : Nat → Nat} {n c k q : Nat} {d x : Bool} {R : Nat × Bool} (h : k < n) (h93 : ¬ f k = 93) (hq : aft f n k = q) (hx : (d || hit f n c k) = x) (H : sl f n c k d = R) : sl f n c q x = R := by
  rw [← H, sl_step f n c k d ⟨h, h93⟩, hq, hx]
theorem hx_true {d y : Bool} (h : d = true) : (d || y) = true := by rw [h]; rfl
theorem hx_dec {f : Nat → Nat} {n c k lo hi : Nat} {d x : Bool} (hd : ¬ d = true) (h1 : sbB f n k = lo) (h2 : hiB f n k = hi) (hx : decide (min lo hi ≤ c ∧ c ≤ max lo hi) = x) : (d || hit f n c k) = x := by
  cases d with
  | true => exact absurd rfl hd
  | false => unfold hit; rw [h1, h2]; simpa using hx

theorem past_lt {n k : Nat} (h : k < n) : past n k = k + 1 := by unfold past; rw [if_pos h]
theorem past_ge {n k : Nat} (h : ¬ k < n) : past n k = k := by unfold past; rw [if_neg h]
theorem ms_end {f : Nat → Nat} {n p c k : Nat} {d : Bool} (hstop : ¬ (k < n ∧ f k ≠ 93)) (H : sl f n c k d = sl f n c (st0 f n p) false) : msN f n p c = past n k ∧ msB f n p c = (d != neg f n p) := by
  unfold msN msB; rw [← H, sl_stop _ _ _ _ _ hstop]; exact ⟨rfl, rfl⟩

theorem st0_le (f : Nat → Nat) (n p : Nat) (h : p ≤ n) : st0 f n p ≤ n := by
  unfold st0 neg
  split
  · rename_i hr
    have hr' := of_decide_eq_true hr
    omega
  · exact h
theorem st0_ge (f : Nat → Nat) (n p : Nat) : p ≤ st0 f n p := by unfold st0; split <;> omega

/-! ### Where a set ends does not hang on the byte -/
theorem slF_fst (f : Nat → Nat) (n c d : Nat) : ∀ k p b b', (slF f n c k p b).1 = (slF f n d k p b').1 := by
  intro k
  induction k with
  | zero => intros; rfl
  | succ k ih =>
    intro p b b'
    by_cases h : p < n ∧ f p ≠ 93
    · rw [slF, slF, if_pos h, if_pos h]; exact ih _ _ _
    · rw [slF_stop f n c _ p b h, slF_stop f n d _ p b' h]
theorem slF_bd (f : Nat → Nat) (n c : Nat) : ∀ k p b, p ≤ n → p ≤ (slF f n c k p b).1 ∧ (slF f n c k p b).1 ≤ n := by
  intro k
  induction k with
  | zero => intro p b h; exact ⟨Nat.le_refl _, h⟩
  | succ k ih =>
    intro p b hp
    by_cases h : p < n ∧ f p ≠ 93
    · rw [slF, if_pos h]
      have h1 := aft_gt f n p
      have h2 := ih (aft f n p) (b || hit f n c p) (aft_le f n p h.1)
      omega
    · rw [slF_stop f n c _ p b h]; exact ⟨Nat.le_refl _, hp⟩
theorem sl_bd (f : Nat → Nat) (n c p : Nat) (b : Bool) (h : p ≤ n) : p ≤ (sl f n c p b).1 ∧ (sl f n c p b).1 ≤ n := slF_bd f n c _ p b h

theorem msN_same (f : Nat → Nat) (n p c d : Nat) : msN f n p c = msN f n p d := by
  unfold msN sl; rw [slF_fst f n c d _ _ _ false]
theorem msN_bd (f : Nat → Nat) (n p c : Nat) (h : p ≤ n) : p ≤ msN f n p c ∧ msN f n p c ≤ n := by
  unfold msN past
  have h1 := sl_bd f n c (st0 f n p) false (st0_le f n p h)
  have h2 := st0_ge f n p
  split <;> omega
end Go.Proofs.Qxb6603803a
