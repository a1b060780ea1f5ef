/-
  THE WALK of cloneBytes (11).
-/
import Derived.Test.Qxb6603803aRows
import Derived.Test.Qxb6603803aMem
import Derived.ProofKit
import Derived.WalkLawsBesides
import Derived.Lib.SliceRun
namespace Go.Proofs.Qxb6603803a
open Go.ChangeShapes Go.WideShapes Go.ChangeAt Go.RowKit
set_option linter.unusedVariables false

theorem infoB : (Try.prog.info? 5).map (fun i => (i.zero, i.size, i.bytes)) = some (some (.int .u8 0), 1, 1) := by kernel_rfl

/-- A row that is owned is a block. -/
theorem owns_blk {w : World} {base : Nat} {e : TypeId} {g n cap : Nat} {xs : List Value} (h : w.ownsRow base e 1 (.slice (some ⟨g, 0, none⟩) n cap) n xs) : ∃ cur, Blk w g cur e ∧ cur.size = cap ∧ cur.toList.take n = xs := by
  obtain ⟨_, h2⟩ := h
  rcases h2 with ⟨h3, _⟩ | ⟨g', cap', cur, hv, _, hh, _, _, hs, ht⟩
  · cases h3
  · injection hv with h4 _ h6
    injection h4 with h7
    injection h7 with h8
    subst h8 h6
    exact ⟨cur, hh, by omega, by simpa using ht⟩

/-- The bytes z 0 .. z (k - 1) lie at the head of block g. -/
def Head (w : World) (g n k : Nat) (z : Nat → Nat) : Prop := ∃ cur : Array Value, Blk w g cur 5 ∧ cur.size = n ∧ ∀ i, i < k → cur[i]? = some (.int .u8 (z i))

theorem Head.there {w : World} {g n k : Nat} {z : Nat → Nat} (h : Head w g n k z) {j : Nat} (hj : j < n) : (∃ v, w.cell? ⟨g, j, none⟩ = some v) ∧ w.frozen? ⟨g, j, none⟩ = false := by
  obtain ⟨cur, hb, hs, _⟩ := h
  refine ⟨⟨cur[j]'(by omega), ?_⟩, hb.frozen j⟩
  rw [hb.cell j, Array.getElem?_eq_getElem (by omega)]
theorem Head.next {w : World} {g n k : Nat} {z : Nat → Nat} (h : Head w g n k z) (hk : k < n) : Head (w.setCell ⟨g, k, none⟩ (.int .u8 (z k))) g n (k + 1) z := by
  obtain ⟨cur, hb, hs, hz⟩ := h
  refine ⟨_, hb.set k _, by rw [Array.size_setIfInBounds]; exact hs, fun i hi => ?_⟩
  by_cases e : i = k
  · subst e; rw [Array.getElem?_setIfInBounds_self_of_lt (by omega)]
  · rw [Array.getElem?_setIfInBounds_ne (fun h => e h.symm)]; exact hz i (by omega)

set_option maxHeartbeats 1000000 in
theorem cloneBytes_nil (w : World) : Calls Try.prog 11 #[.slice none 0 0] w fun e w' => e = .returned (.slice none 0 0) ∧ w' = w := by
  have q22 : ∀ (w : World) (a : Option Addr) (n c n' c' : Nat), (binOp .eql 22 (.slice a n c) (.slice none n' c')).run Try.prog w = .ok (.bool a.isNone) w := fun w a n c n' c' => Lib.run_eql_slice_nil w _ _ a n c n' c' Try.underlying22
  go_enter Try.func11, Try.ntmps11
  go_wp2
  go_ret
  exact ⟨rfl, rfl⟩

set_option maxHeartbeats 1000000 in
theorem cloneBytes_at (b off len cap : Nat) (z : Nat → Nat) (w : World) (hl : len ≤ 1048576) (hc : ∀ i, i < len → w.cell? ⟨b, off + i, none⟩ = some (.int .u8 (z i))) (hb : b < w.heap.size) :
    Calls Try.prog 11 #[.slice (some ⟨b, off, none⟩) len cap] w fun e w' => e = .returned (.slice (some ⟨w.heap.size, 0, none⟩) len len) ∧ Head w' w.heap.size len len z ∧ Below w.heap.size w w' := by
  have q22 : ∀ (w : World) (a : Option Addr) (n c n' c' : Nat), (binOp .eql 22 (.slice a n c) (.slice none n' c')).run Try.prog w = .ok (.bool a.isNone) w := fun w a n c n' c' => Lib.run_eql_slice_nil w _ _ a n c n' c' Try.underlying22
  have HC : Hid (∀ i, i < len → w.cell? ⟨b, off + i, none⟩ = some (.int .u8 (z i))) := hc
  clear hc
  obtain ⟨i5, hi5, hz50, hz51, hz52⟩ := info_parts infoB
  go_enter Try.func11, Try.ntmps11
  go_wp2_with (at_make; refine wpList_make_full _ rfl _ _ 22 rfl w.heap.size 5 i5 (.int .u8 0) 1 Try.underlying22 hi5 hz50 hz51 _ _ _ _ len rfl rfl rfl rfl (by rw [hz52]; omega) (by unfold maxLen; omega) (Nat.le_refl _) ?_; intro w1 v1 g1)
  obtain ⟨cur, k1, k2, _⟩ := owns_blk v1
  have h0 : Head w1 w.heap.size len 0 z := ⟨cur, k1, k2, fun i hi => by omega⟩
  have l0 : Below w.heap.size w w1 := (Below.refl _ _).grown g1 (Nat.le_refl _) (fun _ h => by cases h)
  clear v1 g1 k1 k2 q22 hi5 hz50 hz51 hz52
  go_loopw [4] (fun x wr => ∃ k : Nat, k ≤ len ∧ x = .int .i64 k ∧ Head wr w.heap.size len k z ∧ Below w.heap.size w wr) (fun x _ => len - (intOf x).toNat)
  case atStart => exact ⟨0, Nat.zero_le _, rfl, h0, l0⟩
  case round =>
    clear h0 l0
    obtain ⟨k, hk, rfl, h, l⟩ := hrel
    by_cases hlt : k < len
    · have c1 := (l.cell (p := ⟨b, off + k, none⟩) hb).trans (HC.out k hlt)
      obtain ⟨⟨v, c2⟩, f2⟩ := h.there hlt
      go_wp2
      go_roundw
      case rel => exact ⟨k + 1, by omega, by go_num, h.next hlt, l.setCell (Nat.le_refl _) _⟩
      case measure => simp [intOf]; omega
    · have e : k = len := by omega
      subst e
      go_wp2
      go_ret
      exact ⟨rfl, h, l⟩

set_option maxHeartbeats 1000000 in
theorem cloneBytes_zero (x : Addr) (cap : Nat) (z : Nat → Nat) (w : World) :
    Calls Try.prog 11 #[.slice (some x) 0 cap] w fun e w' => e = .returned (.slice (some ⟨w.heap.size, 0, none⟩) 0 0) ∧ Head w' w.heap.size 0 0 z ∧ Below w.heap.size w w' := by
  have q22 : ∀ (w : World) (a : Option Addr) (n c n' c' : Nat), (binOp .eql 22 (.slice a n c) (.slice none n' c')).run Try.prog w = .ok (.bool a.isNone) w := fun w a n c n' c' => Lib.run_eql_slice_nil w _ _ a n c n' c' Try.underlying22
  obtain ⟨i5, hi5, hz50, hz51, hz52⟩ := info_parts infoB
  go_enter Try.func11, Try.ntmps11
  go_wp2_with (at_make; refine wpList_make_full _ rfl _ _ 22 rfl w.heap.size 5 i5 (.int .u8 0) 1 Try.underlying22 hi5 hz50 hz51 _ _ _ _ 0 rfl rfl rfl rfl (by omega) (by unfold maxLen; omega) (Nat.le_refl _) ?_; intro w1 v1 g1)
  obtain ⟨cur, k1, k2, _⟩ := owns_blk v1
  have h0 : Head w1 w.heap.size 0 0 z := ⟨cur, k1, k2, fun i hi => by omega⟩
  have l0 : Below w.heap.size w w1 := (Below.refl _ _).grown g1 (Nat.le_refl _) (fun _ h => by cases h)
  clear v1 g1 k1 k2 q22 hi5 hz50 hz51 hz52
  go_loop [4] (fun x => x = .int .i64 0) (fun _ => 0)
  case atStart => rfl
  case round =>
    subst hrel
    go_wp2
    go_ret
    exact ⟨rfl, h0, l0⟩
end Go.Proofs.Qxb6603803a
