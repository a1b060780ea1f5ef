/-
  cloneBytes AT A SLICE OF BYTES THAT CAME IN, AS THE ROW HANDS IT OVER.
-/
import Derived.Test.Qxb6603803aWalkClone
import Derived.Test.Qxb6603803aWalkGlob
import Derived.OpenShut
namespace Go.Proofs.Qxb6603803a
open Go.ChangeShapes Go.WideShapes Go.ChangeAt Go.RowKit

/-- The bytes of a list of numbers. -/
def zf (zs : List Int) (i : Nat) : Nat := (zs.getD i 0).toNat
theorem zf_bd {zs : List Int} (h : ∀ n ∈ zs, (Lit.int .u8 n).wf = true) (i : Nat) : 0 ≤ zs.getD i 0 ∧ zs.getD i 0 ≤ 255 := by
  rw [List.getD_eq_getElem?_getD]
  cases e : zs[i]? with
  | none => exact ⟨Int.le_refl _, by decide⟩
  | some v => exact bounds_u8 (h v (List.mem_of_getElem? e))

theorem bytes_drewN {w : World} {ao : Option Addr} {m : Nat} {z : Nat → Nat} (h : Bytes w ao m z) (k : Nat) : Bytes (w.drewN k) ao m z := h
theorem head_bytes {w : World} {g n : Nat} {z : Nat → Nat} (h : Head w g n n z) : Bytes w (some ⟨g, 0, none⟩) n z := by
  obtain ⟨cur, hb, hs, hz⟩ := h
  refine .inr ⟨g, 0, rfl, fun i hi => ?_⟩
  rw [hb.cell (0 + i), Nat.zero_add]; exact hz i hi

theorem clone_any (a : Option Addr) (len cap : Nat) (zs : List Int) (w : World) (hl : len ≤ 1048576)
    (h : (a = none ∧ len = 0 ∧ cap = 0 ∧ zs = []) ∨ ∃ x, a = some x ∧ len ≤ cap ∧ cap ≤ maxLen ∧ zs.length = cap ∧ (∀ i, i < zs.length → w.cell? (x.add i) = some (.int .u8 (zs.getD i 0))) ∧ ∀ n ∈ zs, (Lit.int .u8 n).wf = true) :
    Calls Try.prog 11 #[.slice a len cap] w fun e w' => ∃ ao, e = .returned (.slice ao len len) ∧ Bytes w' ao len (zf zs) ∧ Below w.heap.size w w' := by
  rcases h with ⟨rfl, rfl, rfl, rfl⟩ | ⟨x, rfl, hlc, hm, hz, hcell, hwf⟩
  · refine (cloneBytes_nil w).mono fun e w' ⟨he, hw⟩ => ⟨none, he, .inl rfl, ?_⟩
    subst hw; exact Below.refl _ _
  · by_cases h0 : len = 0
    · subst h0
      exact (cloneBytes_zero x cap (zf zs) w).mono fun e w' ⟨he, hh, hb⟩ => ⟨_, he, .inl rfl, hb⟩
    · obtain ⟨b, off, rfl, hc⟩ := ints_at hcell (by omega)
      have hc' : ∀ i, i < len → w.cell? ⟨b, off + i, none⟩ = some (.int .u8 (zf zs i)) := fun i hi => by
        rw [hc i (by omega)]
        have := zf_bd hwf i
        unfold zf
        rw [Int.toNat_of_nonneg this.1]
      have hb := World.block_lt_of_cell? w _ (hc' 0 (by omega))
      exact (cloneBytes_at b off len cap (zf zs) w hl hc' hb).mono fun e w' ⟨he, hh, hb⟩ => ⟨_, he, head_bytes hh, hb⟩

theorem zf_lt {a : Option Addr} {len cap : Nat} {zs : List Int} {w : World}
    (h : (a = none ∧ len = 0 ∧ cap = 0 ∧ zs = []) ∨ ∃ x, a = some x ∧ len ≤ cap ∧ cap ≤ maxLen ∧ zs.length = cap ∧ (∀ i, i < zs.length → w.cell? (x.add i) = some (.int .u8 (zs.getD i 0))) ∧ ∀ n ∈ zs, (Lit.int .u8 n).wf = true) : ∀ i, zf zs i < 256 := by
  intro i
  rcases h with ⟨_, _, _, rfl⟩ | ⟨x, _, _, _, _, _, hwf⟩
  · unfold zf; simp
  · have := zf_bd hwf i; unfold zf; omega
theorem row_len {a : Option Addr} {len cap : Nat} {zs : List Int} {w : World}
    (h : (a = none ∧ len = 0 ∧ cap = 0 ∧ zs = []) ∨ ∃ x, a = some x ∧ len ≤ cap ∧ cap ≤ maxLen ∧ zs.length = cap ∧ (∀ i, i < zs.length → w.cell? (x.add i) = some (.int .u8 (zs.getD i 0))) ∧ ∀ n ∈ zs, (Lit.int .u8 n).wf = true) : len ≤ maxLen := by
  rcases h with ⟨_, h, _, _⟩ | ⟨x, _, h1, h2, _⟩ <;> omega
end Go.Proofs.Qxb6603803a
