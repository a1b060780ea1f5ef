/-
  THE PLAIN LAW of FnSetCaretNegates: a '^' put at the start of a set moves every member on by one place.
-/
import Derived.Test.Qxb6603803aPlain
namespace Go.Proofs.Qxb6603803a

/-- From place p on, g is f moved on by one place. -/
def Moved (f g : Nat → Nat) (p : Nat) : Prop := ∀ k, p ≤ k → g (k + 1) = f k

theorem sbB_moved {f g : Nat → Nat} {p : Nat} (h : Moved f g p) (n k : Nat) (hk : p ≤ k) : sbB g (n + 1) (k + 1) = sbB f n k := by
  unfold sbB
  rw [h k hk, h (k + 1) (by omega)]
  by_cases c : f k = 92 ∧ k + 1 < n
  · rw [if_pos c, if_pos (by omega)]
  · rw [if_neg c, if_neg (by omega)]
theorem sbN_moved {f g : Nat → Nat} {p : Nat} (h : Moved f g p) (n k : Nat) (hk : p ≤ k) : sbN g (n + 1) (k + 1) = sbN f n k + 1 := by
  unfold sbN
  rw [h k hk]
  by_cases c : f k = 92 ∧ k + 1 < n
  · rw [if_pos c, if_pos (by omega)]
  · rw [if_neg c, if_neg (by omega)]
theorem isR_moved {f g : Nat → Nat} {p : Nat} (h : Moved f g p) (n k : Nat) (hk : p ≤ k) : isR g (n + 1) (k + 1) = isR f n k := by
  unfold isR
  have h1 := sbN_gt f n k
  rw [sbN_moved h n k hk, h _ (by omega), h _ (by omega), decide_eq_decide]
  constructor
  · rintro ⟨a, b, c⟩; exact ⟨by omega, b, c⟩
  · rintro ⟨a, b, c⟩; exact ⟨by omega, b, c⟩
theorem hiB_moved {f g : Nat → Nat} {p : Nat} (h : Moved f g p) (n k : Nat) (hk : p ≤ k) : hiB g (n + 1) (k + 1) = hiB f n k := by
  unfold hiB
  have h1 := sbN_gt f n k
  rw [isR_moved h n k hk, sbN_moved h n k hk, sbB_moved h n k hk, sbB_moved h n _ (by omega)]
theorem aft_moved {f g : Nat → Nat} {p : Nat} (h : Moved f g p) (n k : Nat) (hk : p ≤ k) : aft g (n + 1) (k + 1) = aft f n k + 1 := by
  unfold aft
  have h1 := sbN_gt f n k
  rw [isR_moved h n k hk, sbN_moved h n k hk, sbN_moved h n _ (by omega)]
  split <;> rfl
theorem hit_moved {f g : Nat → Nat} {p : Nat} (h : Moved f g p) (n c k : Nat) (hk : p ≤ k) : hit g (n + 1) c (k + 1) = hit f n c k := by
  unfold hit; rw [sbB_moved h n k hk, hiB_moved h n k hk]

theorem slF_moved {f g : Nat → Nat} {p : Nat} (h : Moved f g p) (n c : Nat) : ∀ j k b, p ≤ k → slF g (n + 1) c j (k + 1) b = ((slF f n c j k b).1 + 1, (slF f n c j k b).2) := by
  intro j
  induction j with
  | zero => intro k b _; rfl
  | succ j ih =>
    intro k b hk
    have e := h k hk
    by_cases c1 : k < n ∧ f k ≠ 93
    · rw [slF, slF, if_pos c1, if_pos (by rw [e]; exact ⟨by omega, c1.2⟩), aft_moved h n k hk, hit_moved h n c k hk]
      have := aft_gt f n k
      exact ih _ _ (by omega)
    · rw [slF_stop f n c _ k b c1, slF_stop g (n + 1) c _ (k + 1) b (by rw [e]; intro hh; exact c1 ⟨by omega, hh.2⟩)]

theorem ms_moved {f g : Nat → Nat} {n p c : Nat} (h : Moved f g p) (hg : g p = 94) (hp : p ≤ n) (hf : neg f n p = false) :
    msN g (n + 1) p c = msN f n p c + 1 ∧ msB g (n + 1) p c = !msB f n p c := by
  have hn : neg g (n + 1) p = true := neg_yes (by omega) hg
  have e : sl g (n + 1) c (p + 1) false = ((sl f n c p false).1 + 1, (sl f n c p false).2) := by
    unfold sl
    rw [show n + 1 - (p + 1) = n - p by omega]
    exact slF_moved h n c _ _ _ (Nat.le_refl _)
  unfold msN msB
  rw [st0_yes hn, st0_no hf, hn, hf, e]
  constructor
  · unfold past; split <;> split <;> omega
  · simp only []; cases (sl f n c p false).2 <;> rfl

/-- The pattern with a caret put in at p. -/
theorem caret_size (s : ByteArray) (p : Nat) (hp : p ≤ s.size) : (s.extract 0 p ++ { data := #[94] } ++ s.extract p s.size).size = s.size + 1 := by
  simp only [ByteArray.size_append, ByteArray.size_extract]
  have : (ByteArray.mk #[94]).size = 1 := rfl
  omega
theorem caret_list (s : ByteArray) (p : Nat) : (s.extract 0 p ++ { data := #[94] } ++ s.extract p s.size).data.toList = s.data.toList.take p ++ 94 :: s.data.toList.drop p := by
  simp [ByteArray.data_append, ByteArray.data_extract]
  exact List.take_of_length_le (by rw [List.length_drop]; exact Nat.le_refl _)
theorem bt_list (s : ByteArray) (k : Nat) : bt s k = (s.data.toList.getD k 0).toNat := by
  unfold bt; simp [Array.getD_eq_getD_getElem?, List.getD_eq_getElem?_getD]
theorem caret_at (s : ByteArray) (p : Nat) (hp : p ≤ s.size) : bt (s.extract 0 p ++ { data := #[94] } ++ s.extract p s.size) p = 94 := by
  have hl : p ≤ s.data.toList.length := by simpa using hp
  rw [bt_list, caret_list, List.getD_eq_getElem?_getD, List.getElem?_append_right (by rw [List.length_take]; omega), List.length_take]
  rw [show p - min p s.data.toList.length = 0 by omega]; rfl
theorem caret_moved (s : ByteArray) (p : Nat) (hp : p ≤ s.size) : Moved (bt s) (bt (s.extract 0 p ++ { data := #[94] } ++ s.extract p s.size)) p := by
  intro k hk
  have hl : p ≤ s.data.toList.length := by simpa using hp
  rw [bt_list, bt_list, caret_list, List.getD_eq_getElem?_getD, List.getD_eq_getElem?_getD, List.getElem?_append_right (by rw [List.length_take]; omega), List.length_take]
  rw [show k + 1 - min p s.data.toList.length = (k - p) + 1 by omega, List.getElem?_cons_succ, List.getElem?_drop, show p + (k - p) = k by omega]
end Go.Proofs.Qxb6603803a
