/-
  THE WALK of modelSetEnd (26).
-/
import Derived.Test.Qxb6603803aRows
import Derived.Test.Qxb6603803aModel
import Derived.WalkKit
import Derived.ProofKit
import Derived.WalkLawsBesides
namespace Go.Proofs.Qxb6603803a
open Go.ChangeShapes Go.WideShapes Go.ChangeAt Go.RowKit
set_option linter.unusedVariables false

theorem ret_int {k : IntKind} {a b : Int} (h : a = b) : Ending.returned (.int k a) = .returned (.int k b) := by rw [h]

set_option maxHeartbeats 1000000 in
theorem modelSetEnd_any (s : ByteArray) (p : Nat) (w : World) (hs : s.size ≤ 1048576) (hp : p ≤ s.size) :
    Calls Try.prog 26 #[.string s, .int .i64 p] w fun e w' => e = .returned (.int .i64 (en (bt s) s.size p)) ∧ w' = w := by
  have hb : ∀ k (h : k < s.size), (s[k]'h).toNat = bt s k := bt_eq s
  go_enter Try.func26, Try.ntmps26
  go_wp2
  go_loop [5] (fun i => ∃ k : Nat, k ≤ s.size ∧ i = .int .i64 k ∧ Hid (en (bt s) s.size k = en (bt s) s.size p)) (fun i => s.size - (intOf i).toNat)
  case atStart => exact ⟨p, hp, rfl, rfl⟩
  case round =>
    obtain ⟨k, hk, rfl, H⟩ := hrel
    by_cases hlt : k < s.size
    · by_cases h93 : bt s k = 93
      · have E : Hid (en (bt s) s.size p = k) := by rw [← H.out]; exact en_stop (by omega)
        go_wp2
        go_ret
        exact ⟨ret_int (by rw [E.out]), rfl⟩
      · have E : Hid (en (bt s) s.size (sbN (bt s) s.size k) = en (bt s) s.size p) := by rw [← H.out]; exact (en_step ⟨hlt, h93⟩).symm
        have g := sbN_le (bt s) s.size k hlt
        by_cases h92 : bt s k = 92
        · by_cases h1 : k + 1 < s.size
          · have e : Hid (sbN (bt s) s.size k = k + 2) := by unfold sbN; rw [if_pos ⟨h92, h1⟩]; rfl
            go_wp2
            go_round
            case rel => exact ⟨k + 2, by omega, by go_num, by rw [← e.out]; exact E⟩
            case measure => simp [intOf]; omega
          · have e : Hid (sbN (bt s) s.size k = k + 1) := by unfold sbN; rw [if_neg (by omega)]; rfl
            go_wp2
            go_round
            case rel => exact ⟨k + 1, by omega, by go_num, by rw [← e.out]; exact E⟩
            case measure => simp [intOf]; omega
        · have e : Hid (sbN (bt s) s.size k = k + 1) := by unfold sbN; rw [if_neg (by omega)]; rfl
          go_wp2
          go_round
          case rel => exact ⟨k + 1, by omega, by go_num, by rw [← e.out]; exact E⟩
          case measure => simp [intOf]; omega
    · have E : Hid (en (bt s) s.size p = k) := by rw [← H.out]; exact en_stop (by omega)
      go_wp2
      go_ret
      exact ⟨ret_int (by rw [E.out]; omega), rfl⟩
end Go.Proofs.Qxb6603803a
