/-
  THE WALKS of matchByte (28), ZZmatchByte (23).
-/
import Derived.Test.Qxb6603803aWalkSet
import Derived.Test.Qxb6603803aModel
import Derived.Deep.QuietTactic
import Derived.BigQuiet
namespace Go.Proofs.Qxb6603803a
open Go.ChangeShapes Go.WideShapes Go.ChangeAt Go.RowKit
set_option linter.unusedVariables false

theorem beq_dec (a b : Nat) : ((a : Int) == (b : Int)) = decide (a = b) := by
  by_cases h : a = b
  · subst h; simp
  · rw [decide_eq_false h]; simp; omega

theorem mb_any {f : Nat → Nat} {n p : Nat} (h : f p = 63) : mbN f n p = p + 1 ∧ ∀ c, mbB f n p c = true := by
  unfold mbN mbB; rw [if_pos h]; exact ⟨rfl, fun c => by rw [if_pos h]⟩
theorem mb_set {f : Nat → Nat} {n p : Nat} (h : f p = 91) : mbN f n p = mdN f n (p + 1) ∧ ∀ c, mbB f n p c = mdT f n (p + 1) c := by
  unfold mbN mbB; rw [if_neg (by omega), if_pos h]; exact ⟨rfl, fun c => by rw [if_neg (by omega), if_pos h]⟩
theorem mb_esc {f : Nat → Nat} {n p : Nat} (h : f p = 92) (hp : p + 1 < n) : mbN f n p = p + 2 ∧ ∀ c, mbB f n p c = decide (f (p + 1) = c) := by
  unfold mbN mbB; rw [if_neg (by omega), if_neg (by omega), if_pos ⟨h, hp⟩]; exact ⟨rfl, fun c => by rw [if_neg (by omega), if_neg (by omega), if_pos ⟨h, hp⟩]⟩
theorem mb_lit {f : Nat → Nat} {n p : Nat} (h1 : ¬ f p = 63) (h2 : ¬ f p = 91) (h3 : ¬ (f p = 92 ∧ p + 1 < n)) : mbN f n p = p + 1 ∧ ∀ c, mbB f n p c = decide (f p = c) := by
  unfold mbN mbB; rw [if_neg h1, if_neg h2, if_neg h3]; exact ⟨rfl, fun c => by rw [if_neg h1, if_neg h2, if_neg h3]⟩

theorem matchSet_succ (s : ByteArray) (p c : Nat) (w : World) (hs : s.size ≤ 1048576) (hp : p < s.size) (hc : c < 256) :
    Calls Try.prog 27 #[.string s, .int .i64 ((p : Int) + 1), .int .u8 c] w fun e w' => e = .returned (.tuple #[.int .i64 (mdN (bt s) s.size (p + 1)), .bool (mdT (bt s) s.size (p + 1) c)]) ∧ w' = w := by
  rw [show ((p : Int) + 1) = ((p + 1 : Nat) : Int) by omega]
  refine (matchSet_any s (p + 1) c w hs hp hc).mono fun e w' ⟨he, hw⟩ => ⟨?_, hw⟩
  rw [he, (ms_model (bt s) s.size (p + 1) c).1, (ms_model (bt s) s.size (p + 1) c).2]

set_option maxHeartbeats 1000000 in
theorem matchByte_any (s : ByteArray) (p c : Nat) (w : World) (hs : s.size ≤ 1048576) (hp : p < s.size) (hc : c < 256) :
    Calls Try.prog 28 #[.string s, .int .i64 p, .int .u8 c] w fun e w' => e = .returned (.tuple #[.int .i64 (mbN (bt s) s.size p), .bool (mbB (bt s) s.size p c)]) ∧ ∃ k, w' = w.drewN k := by
  have hb : ∀ k (h : k < s.size), (s[k]'h).toNat = bt s k := bt_eq s
  by_cases h63 : bt s p = 63
  · obtain ⟨e1, e2⟩ := mb_any (n := s.size) h63
    have E1 : Hid (mbN (bt s) s.size p = p + 1) := e1
    have E2 : Hid (mbB (bt s) s.size p c = true) := e2 c
    clear e1 e2
    go_enter Try.func28, Try.ntmps28
    go_wp2
    go_ret2
    exact ⟨ret_ib (by rw [E1.out]; omega) (by rw [E2.out]), 0, rfl⟩
  · by_cases h91 : bt s p = 91
    · obtain ⟨e1, e2⟩ := mb_set (n := s.size) h91
      have E1 : Hid (mbN (bt s) s.size p = mdN (bt s) s.size (p + 1)) := e1
      have E2 : Hid (mbB (bt s) s.size p c = mdT (bt s) s.size (p + 1) c) := e2 c
      clear e1 e2
      go_enter Try.func28, Try.ntmps28
      go_wp2_with (go_at_call 27; refine (matchSet_succ _ _ _ _ (by omega) (by omega) (by omega)).mono ?_; rintro e w' ⟨rfl, rfl⟩)
      go_ret2
      exact ⟨ret_ib (by rw [E1.out]) (by rw [E2.out]), 0, rfl⟩
    · by_cases h92 : bt s p = 92
      · by_cases h1 : p + 1 < s.size
        · obtain ⟨e1, e2⟩ := mb_esc h92 h1
          have E1 : Hid (mbN (bt s) s.size p = p + 2) := e1
          have E2 : Hid (mbB (bt s) s.size p c = decide (bt s (p + 1) = c)) := e2 c
          clear e1 e2
          go_enter Try.func28, Try.ntmps28
          go_wp2
          go_quiet (fail)
          go_wp2
          go_ret2
          exact ⟨ret_ib (by rw [E1.out]; omega) (by rw [E2.out]; exact beq_dec _ _), _, rfl⟩
        · obtain ⟨e1, e2⟩ := mb_lit h63 h91 (n := s.size) (by omega)
          have E1 : Hid (mbN (bt s) s.size p = p + 1) := e1
          have E2 : Hid (mbB (bt s) s.size p c = decide (92 = c)) := by rw [← h92]; exact e2 c
          clear e1 e2
          go_enter Try.func28, Try.ntmps28
          go_wp2
          go_quiet (fail)
          go_wp2
          go_ret2
          exact ⟨ret_ib (by rw [E1.out]; omega) (by rw [E2.out]; exact beq_dec _ _), _, rfl⟩
      · obtain ⟨e1, e2⟩ := mb_lit h63 h91 (n := s.size) (by omega)
        have E1 : Hid (mbN (bt s) s.size p = p + 1) := e1
        have E2 : Hid (mbB (bt s) s.size p c = decide (bt s p = c)) := e2 c
        clear e1 e2
        go_enter Try.func28, Try.ntmps28
        go_wp2
        go_quiet (fail)
        go_wp2
        go_ret2
        exact ⟨ret_ib (by rw [E1.out]; omega) (by rw [E2.out]; exact beq_dec _ _), _, rfl⟩

theorem zzMatchByte_any (s : ByteArray) (p c : Nat) (w : World) (hs : s.size ≤ 1048576) (hp : p < s.size) (hc : c < 256) :
    Calls Try.prog 23 #[.string s, .int .i64 p, .int .u8 c] w fun e w' => e = .returned (.tuple #[.int .i64 (mbN (bt s) s.size p), .bool (mbB (bt s) s.size p c)]) ∧ ∃ k, w' = w.drewN k := by
  go_enter Try.func23, Try.ntmps23
  go_wp2_with (go_at_call 28; refine (matchByte_any _ _ _ _ (by omega) (by omega) (by omega)).mono ?_; rintro e w' ⟨rfl, k, rfl⟩)
  go_ret2
  exact ⟨rfl, _, rfl⟩
end Go.Proofs.Qxb6603803a
