/-
  WHAT THE WALK OF FnGlobEscapedNameIsExactLiteral WANTS OF MEMORY; matchGlob AT THE ESCAPED PATTERN.
-/
import Derived.Test.Qxb6603803aWalkSame
import Derived.Test.Qxb6603803aCloneAny
import Derived.Laws.IdiomStrings
namespace Go.Proofs.Qxb6603803a
open Go.ChangeShapes Go.WideShapes Go.ChangeAt Go.RowKit

/-- A slice of bytes reads on where what was there has not turned. -/
theorem bytes_later {w w' : World} {ao : Option Addr} {m : Nat} {z : Nat → Nat} (h : Bytes w ao m z) (hb : Below w.heap.size w w') : Bytes w' ao m z := by
  rcases h with h | ⟨b, off, rfl, hc⟩
  · exact .inl h
  · refine .inr ⟨b, off, rfl, fun i hi => ?_⟩
    have := hc i hi
    rw [hb.cell (p := ⟨b, off + i, none⟩) (World.block_lt_of_cell? w _ this)]; exact this
theorem row_later {a : Option Addr} {len cap : Nat} {zs : List Int} {w w' : World} (hb : Below w.heap.size w w')
    (h : (a = none ∧ len = 0 ∧ cap = 0 ∧ zs = []) ∨ ∃ x, a = some x ∧ len ≤ cap ∧ cap ≤ maxLen ∧ zs.length = cap ∧ (∀ i, i < zs.length → w.cell? (x.add i) = some (.int .u8 (zs.getD i 0))) ∧ ∀ n ∈ zs, (Lit.int .u8 n).wf = true) :
    (a = none ∧ len = 0 ∧ cap = 0 ∧ zs = []) ∨ ∃ x, a = some x ∧ len ≤ cap ∧ cap ≤ maxLen ∧ zs.length = cap ∧ (∀ i, i < zs.length → w'.cell? (x.add i) = some (.int .u8 (zs.getD i 0))) ∧ ∀ n ∈ zs, (Lit.int .u8 n).wf = true := by
  rcases h with h | ⟨x, h1, h2, h3, h4, h5, h6⟩
  · exact .inl h
  · refine .inr ⟨x, h1, h2, h3, h4, fun i hi => ?_, h6⟩
    have := h5 i hi
    rw [hb.cell (p := x.add i) (World.block_lt_of_cell? w _ this)]; exact this

/-- The escaped pattern's first n bytes as cells. -/
def escV (x : Nat → Nat) (n : Nat) : List Value := (List.range n).map fun k => Value.int .u8 (ef x k)
theorem escV_len (x : Nat → Nat) (n : Nat) : (escV x n).length = n := by unfold escV; simp
theorem escV_at (x : Nat → Nat) (n j : Nat) (hj : j < n) : (escV x n)[j]? = some (.int .u8 (ef x j)) := by
  unfold escV; rw [List.getElem?_map, List.getElem?_range hj]; rfl
theorem escV_next (x : Nat → Nat) (i : Nat) : escV x (2 * i) ++ [.int .u8 92, .int .u8 (x i)] = escV x (2 * i + 2) := by
  unfold escV
  rw [List.range_succ, List.range_succ, List.map_append, List.map_append, List.append_assoc]
  congr 1
  show _ = [Value.int .u8 (ef x (2 * i)), Value.int .u8 (ef x (2 * i + 1))]
  rw [ef_even, ef_odd]; rfl

/-- Two new cells. -/
theorem two_new (w : World) (u v : Value) (t : TypeId) : ∀ j a, [u, v][j]? = some a → (w.alloc (.cells #[u, v] t)).cell? ((⟨w.heap.size, 0, none⟩ : Addr).add j) = some a := by
  intro j a h
  have e : (⟨w.heap.size, 0, none⟩ : Addr).add j = ⟨w.heap.size, j, none⟩ := by unfold Addr.add; split <;> simp_all
  rw [e, (Blk.new w #[u, v] t).cell j]
  simpa using h

/-- 'string(q)'. -/
theorem esc_string {x : Nat → Nat} (hx : ∀ i, x i < 256) {w : World} {base g n cap : Nat} (h : w.ownsRow base 5 1 (.slice (some ⟨g, 0, none⟩) n cap) n (escV x n)) :
    (convert 22 9 (.slice (some ⟨g, 0, none⟩) n cap)).run Try.prog w = .ok (.string ⟨(escL x n).toArray⟩) w := by
  have := run_convert_bytes_back (P := Try.prog) w 22 9 5 ⟨g, 0, none⟩ cap (escL x n) Try.underlying22 Try.underlying5 Try.underlying9 (fun j hj => by
    have hj' : j < n := by rw [escL_len] at hj; exact hj
    have e : (⟨g, 0, none⟩ : Addr).add j = ⟨g, j, none⟩ := by unfold Addr.add; split <;> simp_all
    rw [e, h.cellAt j (by omega), escV_at x n j hj', escL_at hx n j hj'])
  rw [escL_len] at this
  exact this

theorem esc_call (x y : Nat → Nat) (L m cap : Nat) (ao : Option Addr) (W : World) (hL : L ≤ 262144) (hm : m ≤ 1048576) (hx : ∀ i, x i < 256) (hy : ∀ i, y i < 256) (hB : Bytes W ao m y) :
    Calls Try.prog 12 #[.string ⟨(escL x (2 * L)).toArray⟩, .slice ao m cap] W fun e w' => e = .returned (.bool (sameB L m x y)) ∧ ∃ k, w' = W.drewN k := by
  have hz := escL_size x (2 * L)
  refine (zzMatchGlob_any _ ao m cap y W (by rw [hz]; omega) hm hy hB).mono fun e w' ⟨he, hw⟩ => ⟨?_, hw⟩
  rw [he, hz, esc_law (fun k hk => escL_bt hx (2 * L) k hk)]
end Go.Proofs.Qxb6603803a
