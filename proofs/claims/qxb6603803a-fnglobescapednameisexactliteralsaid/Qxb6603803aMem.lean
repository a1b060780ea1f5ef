/-
  MEMORY, BLOCK BY BLOCK: what a block of the call's own holds, and the table of 256 bools.
-/
import Derived.WalkKit
import Derived.Deep.WholeRow
import Derived.Deep.Draws
namespace Go.Proofs.Qxb6603803a
open Go.RowKit

/-- Block g holds the cells cs (of type t), none of them frozen. -/
def Blk (w : World) (g : Nat) (cs : Array Value) (t : TypeId) : Prop := w.heap[g]? = some (.cells cs t (0, 0))

section
variable {w w' : World} {g : Nat} {cs : Array Value} {t : TypeId}
theorem Blk.cell (h : Blk w g cs t) (j : Nat) : w.cell? ⟨g, j, none⟩ = cs[j]? := cell_of_row w g j cs t (0, 0) h
theorem Blk.frozen (h : Blk w g cs t) (j : Nat) : w.frozen? ⟨g, j, none⟩ = false := by
  unfold Blk at h
  simp [World.frozen?, h]
theorem Blk.lt (h : Blk w g cs t) : g < w.heap.size := (Array.getElem?_eq_some_iff.1 h).1
theorem Blk.new (w : World) (cs : Array Value) (t : TypeId) : Blk (w.alloc (.cells cs t)) w.heap.size cs t := heap_alloc_last w _
theorem Blk.alloc (h : Blk w g cs t) (o : Obj) : Blk (w.alloc o) g cs t := by
  have := h.lt
  unfold Blk; rw [Below.heap_alloc _ _ _ this]; exact h
theorem Blk.set (h : Blk w g cs t) (j : Nat) (v : Value) : Blk (w.setCell ⟨g, j, none⟩ v) g (cs.setIfInBounds j v) t := by
  have hl := h.lt
  unfold Blk at h ⊢
  simp only [World.setCell, Array.getElem?_modify, if_pos, h]
  rfl
theorem Blk.apart (h : Blk w g cs t) {a : Addr} (hne : g ≠ a.block) (v : Value) : Blk (w.setCell a v) g cs t := by
  unfold Blk; rw [Below.heap_setCell _ _ _ _ hne]; exact h
theorem Blk.grown (h : Blk w g cs t) {row : Option Nat} (hg : w.grownBy w' row) (hne : some g ≠ row) : Blk w' g cs t := by
  unfold Blk; rw [hg.block g h.lt hne]; exact h
theorem Blk.below (h : Blk w g cs t) {B : Nat} (hb : Below B w w') (hlt : g < B) : Blk w' g cs t := by
  unfold Blk; rw [hb.block g hlt]; exact h
theorem Blk.drewN (h : Blk w g cs t) (n : Nat) : Blk (w.drewN n) g cs t := h
theorem Blk.drew (h : Blk w g cs t) : Blk w.drew g cs t := h
theorem Blk.row (h : Blk w g cs t) (cs' : Array Value) : Blk (w.setRow g cs') g cs' t := setRow_heap w g cs cs' t (0, 0) h
theorem heap_setRow_apart (w : World) (b k : Nat) (cs' : Array Value) (h : k ≠ b) : (w.setRow b cs').heap[k]? = w.heap[k]? := by
  simp only [World.setRow, Array.getElem?_modify]
  rw [if_neg (by omega)]
theorem Blk.rowApart (h : Blk w g cs t) {b : Nat} (hne : g ≠ b) (cs' : Array Value) : Blk (w.setRow b cs') g cs t := by
  unfold Blk; rw [heap_setRow_apart w b g cs' hne]; exact h
theorem below_setRow' {B : Nat} {a : World} (h : Below B a w) {b : Nat} (hb : B ≤ b) (cs' : Array Value) : Below B a (w.setRow b cs') :=
  h.trans ⟨rfl, rfl, rfl, by simp [World.setRow], fun k hk => heap_setRow_apart _ _ _ _ (by omega)⟩
end

/-- The table of 256 bools as cells. -/
def tabL (T : Nat → Bool) (n : Nat) : List Value := (List.range n).map fun v => Value.bool (T v)
def tabA (T : Nat → Bool) : Array Value := (tabL T 256).toArray
theorem tabL_get (T : Nat → Bool) (n j : Nat) (h : j < n) : (tabL T n)[j]? = some (.bool (T j)) := by
  unfold tabL; rw [List.getElem?_map, List.getElem?_range h]; rfl
theorem tabL_len (T : Nat → Bool) (n : Nat) : (tabL T n).length = n := by unfold tabL; simp
theorem tabL_set (T : Nat → Bool) (n j : Nat) (b : Bool) : (tabL T n).set j (.bool b) = tabL (fun v => if v = j then b else T v) n := by
  apply List.ext_getElem?
  intro i
  by_cases hi : i < n
  · rw [List.getElem?_set, tabL_get (fun v => if v = j then b else T v) _ _ hi]
    by_cases e : j = i
    · subst e; rw [if_pos rfl, if_pos (by rw [tabL_len]; exact hi), if_pos rfl]
    · rw [if_neg e, tabL_get _ _ _ hi, if_neg (fun h => e h.symm)]
  · rw [List.getElem?_eq_none (by rw [List.length_set, tabL_len]; omega), List.getElem?_eq_none (by rw [tabL_len]; omega)]
theorem tabL_ext {T T' : Nat → Bool} {n : Nat} (h : ∀ v, v < n → T v = T' v) : tabL T n = tabL T' n := by
  unfold tabL
  apply List.map_congr_left
  intro v hv
  rw [h v (List.mem_range.1 hv)]
theorem tabL_one (T : Nat → Bool) (n : Nat) : ∀ v ∈ tabL T n, v.oneCell' = true := by
  intro v hv
  unfold tabL at hv
  obtain ⟨j, _, rfl⟩ := List.mem_map.1 hv
  rfl
theorem tabA_get (T : Nat → Bool) (j : Nat) (h : j < 256) : (tabA T)[j]? = some (.bool (T j)) := by
  unfold tabA; rw [List.getElem?_toArray]; exact tabL_get T 256 j h
theorem tabA_size (T : Nat → Bool) : (tabA T).size = 256 := by unfold tabA; rw [List.size_toArray]; exact tabL_len T 256
theorem tabA_set (T : Nat → Bool) (j : Nat) (b : Bool) : (tabA T).setIfInBounds j (.bool b) = tabA (fun v => if v = j then b else T v) := by
  unfold tabA; rw [List.setIfInBounds_toArray, tabL_set]
theorem tabA_ext {T T' : Nat → Bool} (h : ∀ v, v < 256 → T v = T' v) : tabA T = tabA T' := by
  unfold tabA; rw [tabL_ext h]
theorem tabA_one (T : Nat → Bool) : (tabA T).all (·.oneCell') = true :=
  Array.all_eq_true_iff_forall_mem.2 (fun v hv => tabL_one T 256 v (by unfold tabA at hv; simpa using hv))
theorem tabA_zero : Array.replicate 256 (Value.bool false) = tabA (fun _ => false) := by
  unfold tabA tabL
  apply Array.ext'
  rw [Array.toList_replicate]
  apply List.ext_getElem?
  intro i
  by_cases hi : i < 256
  · rw [List.getElem?_replicate, if_pos hi, List.getElem?_map, List.getElem?_range hi]; rfl
  · rw [List.getElem?_eq_none (by rw [List.length_replicate]; omega), List.getElem?_eq_none (by rw [List.length_map, List.length_range]; omega)]
end Go.Proofs.Qxb6603803a
