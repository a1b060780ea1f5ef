/-
  THE WALK of sameBytes (15).
-/
import Derived.Test.Qxb6603803aWalkGlob
import Derived.Test.Qxb6603803aEsc
import Derived.Deep.QuietTactic
import Derived.BigQuiet
namespace Go.Proofs.Qxb6603803a
open Go.ChangeShapes Go.WideShapes Go.ChangeAt Go.RowKit
set_option linter.unusedVariables false

theorem sameB_len {L m : Nat} {x y : Nat → Nat} (h : ¬ L = m) : sameB L m x y = false := decide_eq_false (fun hh => h hh.1)
theorem sameB_yes {L m : Nat} {x y : Nat → Nat} (h : L = m) (h2 : ∀ t, t < L → x t = y t) : sameB L m x y = true := decide_eq_true ⟨h, h2⟩
theorem sameB_no {L m i : Nat} {x y : Nat → Nat} (hi : i < L) (h2 : ¬ x i = y i) : sameB L m x y = false := decide_eq_false (fun hh => h2 (hh.2 i hi))

set_option maxHeartbeats 1000000 in
theorem sameBytes_len (ao bo : Option Addr) (la ca lb cb : Nat) (x y : Nat → Nat) (w : World) (hl : la ≤ 1048576) (hl2 : lb ≤ 1048576) (hne : ¬ la = lb) :
    Calls Try.prog 15 #[.slice ao la ca, .slice bo lb cb] w fun e w' => e = .returned (.bool (sameB la lb x y)) ∧ ∃ k, w' = w.drewN k := by
  have E : Hid (sameB la lb x y = false) := sameB_len hne
  have hne' : ((la : Int) != (lb : Int)) = true := by simp; omega
  go_enter Try.func15, Try.ntmps15
  go_wp2
  go_ret
  exact ⟨ret_bool (by rw [E.out]), 0, rfl⟩

set_option maxHeartbeats 1000000 in
theorem sameBytes_zero (ao bo : Option Addr) (ca cb : Nat) (x y : Nat → Nat) (w : World) :
    Calls Try.prog 15 #[.slice ao 0 ca, .slice bo 0 cb] w fun e w' => e = .returned (.bool (sameB 0 0 x y)) ∧ ∃ k, w' = w.drewN k := by
  have E : Hid (sameB 0 0 x y = true) := sameB_yes rfl (fun t ht => by omega)
  go_enter Try.func15, Try.ntmps15
  go_wp2
  go_loop [5] (fun i => i = .int .i64 0) (fun _ => 0)
  case atStart => rfl
  case round =>
    subst hrel
    go_wp2
    go_ret
    exact ⟨ret_bool (by rw [E.out]), 0, rfl⟩

set_option maxHeartbeats 1000000 in
theorem sameBytes_at (a1 o1 a2 o2 l ca cb : Nat) (x y : Nat → Nat) (w : World) (hl : l ≤ 1048576)
    (hc1 : ∀ i, i < l → w.cell? ⟨a1, o1 + i, none⟩ = some (.int .u8 (x i))) (hc2 : ∀ i, i < l → w.cell? ⟨a2, o2 + i, none⟩ = some (.int .u8 (y i))) :
    Calls Try.prog 15 #[.slice (some ⟨a1, o1, none⟩) l ca, .slice (some ⟨a2, o2, none⟩) l cb] w fun e w' => e = .returned (.bool (sameB l l x y)) ∧ ∃ k, w' = w.drewN k := by
  have H1 : Hid (∀ i, i < l → w.cell? ⟨a1, o1 + i, none⟩ = some (.int .u8 (x i))) := hc1
  have H2 : Hid (∀ i, i < l → w.cell? ⟨a2, o2 + i, none⟩ = some (.int .u8 (y i))) := hc2
  clear hc1 hc2
  go_enter Try.func15, Try.ntmps15
  go_wp2
  go_loopw [5] (fun v wr => ∃ i k : Nat, i ≤ l ∧ v = .int .i64 i ∧ wr = w.drewN k ∧ Hid (∀ t, t < i → x t = y t)) (fun v _ => l - (intOf v).toNat)
  case atStart => exact ⟨0, 0, Nat.zero_le _, rfl, rfl, fun t ht => by omega⟩
  case round =>
    obtain ⟨i, k, hi, rfl, rfl, H⟩ := hrel
    by_cases hlt : i < l
    · have c1 := H1.out i hlt
      have c2 := H2.out i hlt
      have hli : (i : Int) < (l : Int) := by omega
      by_cases hxy : x i = y i
      · have H' : Hid (∀ t, t < i + 1 → x t = y t) := fun t ht => by
          by_cases e : t = i
          · subst e; exact hxy
          · exact H.out t (by omega)
        rw [hxy] at c1
        clear hxy
        go_wp2
        go_quiet (fail)
        go_wp2
        go_roundw
        case rel => exact ⟨i + 1, _, by omega, by go_num, rfl, H'⟩
        case measure => simp [intOf]; omega
      · have E : Hid (sameB l l x y = false) := sameB_no hlt hxy
        have hne : ((x i : Int) != (y i : Int)) = true := by simp; omega
        clear hxy H
        go_wp2
        go_quiet (fail)
        go_wp2
        go_ret
        exact ⟨ret_bool (by rw [E.out]), k + nq, by rw [World.drewN_drewN]⟩
    · have E : Hid (sameB l l x y = true) := sameB_yes rfl (fun t ht => H.out t (by omega))
      go_wp2
      go_ret
      exact ⟨ret_bool (by rw [E.out]), _, rfl⟩

theorem sameBytes_any (ao bo : Option Addr) (la ca lb cb : Nat) (x y : Nat → Nat) (w : World) (hl : la ≤ 1048576) (hl2 : lb ≤ 1048576) (h1 : Bytes w ao la x) (h2 : Bytes w bo lb y) :
    Calls Try.prog 15 #[.slice ao la ca, .slice bo lb cb] w fun e w' => e = .returned (.bool (sameB la lb x y)) ∧ ∃ k, w' = w.drewN k := by
  by_cases e : la = lb
  · subst e
    rcases h1 with rfl | ⟨b, o, rfl, hc⟩
    · exact sameBytes_zero ao bo ca cb x y w
    · rcases h2 with rfl | ⟨b2, o2, rfl, hc2⟩
      · exact sameBytes_zero _ bo ca cb x y w
      · exact sameBytes_at b o b2 o2 la ca cb x y w hl hc hc2
  · exact sameBytes_len ao bo la ca lb cb x y w hl hl2 e
end Go.Proofs.Qxb6603803a
