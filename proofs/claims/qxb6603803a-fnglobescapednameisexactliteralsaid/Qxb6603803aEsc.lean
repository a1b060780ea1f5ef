/-
  THE PLAIN LAW of FnGlobEscapedNameIsExactLiteral: a backslash ahead of every byte. No Go in sight.
-/
import Derived.Test.Qxb6603803aGlob
namespace Go.Proofs.Qxb6603803a

/-- The escaped pattern's byte at place k. -/
def ef (x : Nat → Nat) (k : Nat) : Nat := if k % 2 = 0 then 92 else x (k / 2)
theorem ef_even (x : Nat → Nat) (i : Nat) : ef x (2 * i) = 92 := by unfold ef; rw [if_pos (by omega)]
theorem ef_odd (x : Nat → Nat) (i : Nat) : ef x (2 * i + 1) = x i := by unfold ef; rw [if_neg (by omega), show (2 * i + 1) / 2 = i by omega]
theorem ef_lt {x : Nat → Nat} (hx : ∀ i, x i < 256) (k : Nat) : ef x k < 256 := by unfold ef; split; omega; exact hx _

/-- Are the two names the same? -/
def sameB (L m : Nat) (x y : Nat → Nat) : Bool := decide (L = m ∧ ∀ t, t < L → x t = y t)

theorem esc_G {f : Nat → Nat} {x y : Nat → Nat} {L m : Nat} (hf : ∀ k, k < 2 * L → f k = ef x k) : ∀ d i j, i + d = L → (G f (2 * L) y m (2 * i) j = true ↔ (j + d = m ∧ ∀ t, t < d → x (i + t) = y (j + t))) := by
  intro d
  induction d with
  | zero =>
    intro i j hi
    rw [G_end (by omega), decide_eq_true_iff]
    constructor
    · intro h; exact ⟨by omega, fun t ht => by omega⟩
    · intro h; omega
  | succ d ih =>
    intro i j hi
    have h0 : f (2 * i) = 92 := by rw [hf _ (by omega), ef_even]
    have h1 : f (2 * i + 1) = x i := by rw [hf _ (by omega), ef_odd]
    have hN : mbN f (2 * L) (2 * i) = 2 * (i + 1) := by unfold mbN; rw [h0, if_neg (by omega), if_neg (by omega), if_pos ⟨rfl, by omega⟩]; omega
    have hB : ∀ c, mbB f (2 * L) (2 * i) c = decide (x i = c) := fun c => by unfold mbB; rw [h0, if_neg (by omega), if_neg (by omega), if_pos ⟨rfl, by omega⟩, h1]
    rw [G_elem (by omega) (by omega), hN, hB, Bool.and_eq_true, Bool.and_eq_true, decide_eq_true_iff, decide_eq_true_iff, ih (i + 1) (j + 1) (by omega)]
    constructor
    · rintro ⟨⟨h2, h3⟩, h4, h5⟩
      refine ⟨by omega, fun t ht => ?_⟩
      cases t with
      | zero => exact h3
      | succ t =>
        have := h5 t (by omega)
        rw [show i + (t + 1) = i + 1 + t by omega, show j + (t + 1) = j + 1 + t by omega]; exact this
    · rintro ⟨h2, h3⟩
      refine ⟨⟨by omega, h3 0 (by omega)⟩, by omega, fun t ht => ?_⟩
      have := h3 (t + 1) (by omega)
      rw [show i + (t + 1) = i + 1 + t by omega, show j + (t + 1) = j + 1 + t by omega] at this; exact this

theorem esc_law {f : Nat → Nat} {x y : Nat → Nat} {L m : Nat} (hf : ∀ k, k < 2 * L → f k = ef x k) : G f (2 * L) y m 0 0 = sameB L m x y := by
  have H := esc_G (y := y) (m := m) hf L 0 0 (by omega)
  unfold sameB
  cases hg : G f (2 * L) y m 0 0 with
  | true =>
    have := H.1 hg
    refine (decide_eq_true ⟨by omega, fun t ht => ?_⟩).symm
    have h := this.2 t ht
    rw [Nat.zero_add] at h; exact h
  | false =>
    refine (decide_eq_false ?_).symm
    rintro ⟨h1, h2⟩
    have : G f (2 * L) y m (2 * 0) 0 = true := H.2 ⟨by omega, fun t ht => by rw [Nat.zero_add]; exact h2 t ht⟩
    rw [show 2 * 0 = 0 from rfl, hg] at this; cases this

/-- The escaped pattern as bytes. -/
def escL (x : Nat → Nat) (n : Nat) : List UInt8 := (List.range n).map fun k => UInt8.ofNat (ef x k)
theorem escL_len (x : Nat → Nat) (n : Nat) : (escL x n).length = n := by unfold escL; simp
theorem escL_at {x : Nat → Nat} (hx : ∀ i, x i < 256) (n j : Nat) (hj : j < n) : ((escL x n)[j]'(by rw [escL_len]; exact hj)).toNat = ef x j := by
  unfold escL
  rw [List.getElem_map, List.getElem_range, UInt8.toNat_ofNat']
  have := ef_lt hx j
  omega
theorem escL_bt {x : Nat → Nat} (hx : ∀ i, x i < 256) (n k : Nat) (hk : k < n) : bt ⟨(escL x n).toArray⟩ k = ef x k := by
  unfold bt
  rw [← escL_at hx n k hk]
  congr 1
  show (escL x n).toArray.getD k 0 = _
  unfold Array.getD
  rw [dif_pos (by rw [List.size_toArray, escL_len]; exact hk)]
  rfl
theorem escL_size (x : Nat → Nat) (n : Nat) : (ByteArray.mk (escL x n).toArray).size = n := by
  show (escL x n).toArray.size = n
  rw [List.size_toArray, escL_len]
end Go.Proofs.Qxb6603803a
