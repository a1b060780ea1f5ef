/-
  THE PLAIN LAW of FnByteAgreesWithGlobOnOneByte: an element, cut out as a pattern of its own, is read as it was.
-/
import Derived.Test.Qxb6603803aGlob
namespace Go.Proofs.Qxb6603803a

section
variable {f g : Nat → Nat} {n p len e : Nat}
/-- The chain of a set's members in the cut-out pattern: g from k on is f from p + k on, up to the cut; e is where the set ends. -/
theorem sb_cut {k : Nat} (hg : ∀ k, k < len → g k = f (p + k)) (hlen : len = past n e - p) (he : e ≤ n) (_hpe : p ≤ e) (hk : p + k < e) (hn : en f n (p + k) = e) :
    sbB g len k = sbB f n (p + k) ∧ sbN g len k + p = sbN f n (p + k) ∧ k < len ∧ g k = f (p + k) := by
  have hle := en_next_le hn hk
  have hpast : e ≤ past n e ∧ past n e ≤ n := by unfold past; split <;> omega
  have hkl : k < len := by omega
  have gk := hg k hkl
  unfold sbN at hle
  by_cases c : f (p + k) = 92 ∧ p + k + 1 < n
  · rw [if_pos c] at hle
    have h1 : k + 1 < len := by omega
    have gk1 := hg (k + 1) h1
    refine ⟨?_, ?_, hkl, gk⟩
    · unfold sbB; rw [if_pos c, if_pos ⟨by rw [gk]; exact c.1, h1⟩, gk1]; rfl
    · unfold sbN; rw [if_pos c, if_pos ⟨by rw [gk]; exact c.1, h1⟩]; omega
  · rw [if_neg c] at hle
    have c' : ¬ (g k = 92 ∧ k + 1 < len) := by
      rintro ⟨h1, h2⟩
      rw [gk] at h1
      exact c ⟨h1, by omega⟩
    refine ⟨?_, ?_, hkl, gk⟩
    · unfold sbB; rw [if_neg c, if_neg c', gk]
    · unfold sbN; rw [if_neg c, if_neg c']; omega
/-- At the set's end the cut-out pattern ends its set too. -/
theorem stop_cut {k : Nat} (hg : ∀ k, k < len → g k = f (p + k)) (hlen : len = past n e - p) (hk : p + k = e) (hn : en f n (p + k) = e) : ¬ (k < len ∧ g k ≠ 93) := by
  rintro ⟨h1, h2⟩
  rw [hg k h1, hk] at h2
  unfold past at hlen
  split at hlen
  · rename_i hlt
    have := en_step (f := f) (n := n) (p := e) ⟨hlt, h2⟩
    rw [hk] at hn
    have g1 := sbN_gt f n e
    have g2 := (en_bd f n (sbN f n e) (sbN_le f n e hlt)).1
    omega
  · omega
theorem un_cut (hg : ∀ k, k < len → g k = f (p + k)) (hlen : len = past n e - p) (he : e ≤ n) (hpe : p ≤ e) : ∀ j k, e - (p + k) ≤ j → p + k ≤ e → en f n (p + k) = e → en g len k + p = e ∧ un g len k = un f n (p + k) := by
  intro j
  induction j with
  | zero =>
    intro k hj hk hn
    have hs := stop_cut hg hlen (by omega) hn
    rw [en_stop hs, un_stop hs, un_end hn (by omega)]
    exact ⟨by omega, rfl⟩
  | succ j ih =>
    intro k hj hk hn
    by_cases hlt : p + k < e
    · obtain ⟨h1, h2, h3, h4⟩ := sb_cut hg hlen he hpe hlt hn
      have c := en_lt hn hlt
      have c' : k < len ∧ g k ≠ 93 := ⟨h3, by rw [h4]; exact c.2⟩
      have hle := en_next_le hn hlt
      have g1 := sbN_gt f n (p + k)
      rw [en_step c] at hn
      rw [en_step c', un_step c', un_step c, h1, h4]
      have e1 : p + sbN g len k = sbN f n (p + k) := by omega
      have := ih (sbN g len k) (by omega) (by omega) (by rw [e1]; exact hn)
      rw [e1] at this
      exact ⟨this.1, by rw [this.2]⟩
    · have hs := stop_cut hg hlen (by omega) hn
      rw [en_stop hs, un_stop hs, un_end hn hlt]
      exact ⟨by omega, rfl⟩
end

/-- A set, cut out: it starts at place 1 of the cut-out pattern. -/
theorem set_cut {f g : Nat → Nat} {n p len : Nat} (hp : p < n) (hlen : len = mdN f n (p + 1) - p) (hg : ∀ k, k < len → g k = f (p + k)) :
    mdN g len 1 = len ∧ ∀ c, mdT g len 1 c = mdT f n (p + 1) c := by
  have hs1 := st0_le f n (p + 1) hp
  have hs2 := st0_ge f n (p + 1)
  have hb := en_bd f n (st0 f n (p + 1)) hs1
  have hpast : en f n (st0 f n (p + 1)) ≤ past n (en f n (st0 f n (p + 1))) := by unfold past; split <;> omega
  have hlen' : len = past n (en f n (st0 f n (p + 1))) - p := hlen
  -- the caret
  have hneg : neg g len 1 = neg f n (p + 1) := by
    by_cases c : p + 1 < n ∧ f (p + 1) = 94
    · have c2 : neg f n (p + 1) = true := neg_yes c.1 c.2
      have := st0_yes c2
      have hl : 1 < len := by omega
      rw [c2]; exact neg_yes hl (by rw [hg 1 hl]; exact c.2)
    · have c2 : neg f n (p + 1) = false := neg_no c
      rw [c2]
      apply neg_no
      rintro ⟨h1, h2⟩
      rw [hg 1 h1] at h2
      have hpn : past n (en f n (st0 f n (p + 1))) ≤ n := by unfold past; split <;> omega
      exact c ⟨by omega, h2⟩
  have hst : st0 g len 1 + p = st0 f n (p + 1) := by
    unfold st0; rw [hneg]; split <;> omega
  have hst' : p + st0 g len 1 = st0 f n (p + 1) := by omega
  have := un_cut hg hlen' hb.2 (by omega) _ (st0 g len 1) (Nat.le_refl _) (by rw [hst']; exact hb.1) (by rw [hst'])
  refine ⟨?_, fun c => ?_⟩
  · unfold mdN
    have e1 : en g len (st0 g len 1) = en f n (st0 f n (p + 1)) - p := by omega
    rw [e1]
    generalize en f n (st0 f n (p + 1)) = e at *
    unfold past at hlen' ⊢
    split at hlen' <;> split <;> omega
  · unfold mdT; rw [hneg, this.2, hst']

/-- An element that is no star, cut out as a pattern of its own, is one element, and takes the same bytes. -/
theorem elem_cut {f g : Nat → Nat} {n p len : Nat} (hp : p < n) (hlen : len = mbN f n p - p) (hg : ∀ k, k < len → g k = f (p + k)) :
    mbN g len 0 = len ∧ ∀ c, mbB g len 0 c = mbB f n p c := by
  have hb := mbN_bd f n p hp
  have h0 : g 0 = f p := hg 0 (by omega)
  by_cases h63 : f p = 63
  · have e : mbN f n p = p + 1 := by unfold mbN; rw [if_pos h63]
    refine ⟨?_, fun c => ?_⟩
    · unfold mbN; rw [h0, if_pos h63]; omega
    · unfold mbB; rw [h0, if_pos h63, if_pos h63]
  · by_cases h91 : f p = 91
    · have e : mbN f n p = mdN f n (p + 1) := by unfold mbN; rw [if_neg h63, if_pos h91]
      have := set_cut hp (by rw [hlen, e]) hg
      refine ⟨?_, fun c => ?_⟩
      · unfold mbN; rw [h0, if_neg h63, if_pos h91]; exact this.1
      · unfold mbB; rw [h0, if_neg h63, if_pos h91, if_neg h63, if_pos h91]; exact this.2 c
    · by_cases h92 : f p = 92 ∧ p + 1 < n
      · have e : mbN f n p = p + 2 := by unfold mbN; rw [if_neg h63, if_neg h91, if_pos h92]
        have hl : 0 + 1 < len := by omega
        have h1 : g 1 = f (p + 1) := hg 1 hl
        refine ⟨?_, fun c => ?_⟩
        · unfold mbN; rw [h0, if_neg h63, if_neg h91, if_pos ⟨h92.1, hl⟩]; omega
        · unfold mbB; rw [h0, if_neg h63, if_neg h91, if_pos ⟨h92.1, hl⟩, if_neg h63, if_neg h91, if_pos h92]; show decide (g 1 = c) = _; rw [h1]
      · have e : mbN f n p = p + 1 := by unfold mbN; rw [if_neg h63, if_neg h91, if_neg h92]
        refine ⟨?_, fun c => ?_⟩
        · unfold mbN; rw [h0, if_neg h63, if_neg h91, if_neg (by omega)]; omega
        · unfold mbB; rw [h0, if_neg h63, if_neg h91, if_neg (by omega), if_neg h63, if_neg h91, if_neg h92]

/-- THE LAW: the cut-out pattern matches the one-byte name c just when the element takes c. -/
theorem one_byte {f g : Nat → Nat} {n p len c : Nat} {z : Nat → Nat} (hz : z 0 = c) (hp : p < n) (h42 : ¬ f p = 42) (hlen : len = mbN f n p - p) (hg : ∀ k, k < len → g k = f (p + k)) : G g len z 1 0 0 = mbB f n p c := by
  have hb := mbN_bd f n p hp
  have E := elem_cut hp hlen hg
  rw [G_elem (by omega) (by rw [hg 0 (by omega)]; exact h42), E.1, hz, E.2 c, G_end (by omega)]
  simp

theorem bt_extract (s : ByteArray) (a b k : Nat) (hb : b ≤ s.size) (hk : k < b - a) : bt (s.extract a b) k = bt s (a + k) := by
  have h1 : k < (s.extract a b).size := by rw [ByteArray.size_extract]; omega
  rw [← bt_eq _ _ h1, ← bt_eq s (a + k) (by omega), ByteArray.getElem_extract]
end Go.Proofs.Qxb6603803a
