/-
  THE SHELL OF A PROOF OF 'Rows.FnGlobEscapedNameIsExactLiteralSaid' ('example.com/bulkwire/bulkwire/zzlaws_server_b1.FnGlobEscapedNameIsExactLiteral'), WRITTEN BY PROGRAM (proof-skeleton.mjs, third state) off the guide's own print for that function. Not trusted: Lean checks it.
-/
import Derived.Test.Qxb6603803aRows
import Derived.Test.Qxb6603803aEscWalk
import Derived.Deep.DeepCutAuto
import Derived.WalkKit
import Derived.ProofKit
import Derived.OpenShut
import Derived.ShutString
import Derived.ChangeOld
import Derived.Below
namespace Go.Proofs.Qxb6603803a.fnGlobEscapedNameIsExactLiteral
open Go.ChangeShapes Go.WideShapes Go.ChangeAt Go.RowKit
open Go.ChangeMaps (open_string shut_string)
set_option linter.unusedVariables false

theorem own : ownKnob Try.prog.godebug = none := by kernel_rfl
theorem laidOut : laidOutB Try.prog = true := by kernel_rfl

/-- WHAT THE WALK IS TOLD OF A SLICE OF INTEGERS THAT CAME IN: it is nil; or it leads to a row of 'cap' cells, the numbers 'zs' (the first 'len' are its elements, the rest its spare room), each fitting its kind. -/
def IsRow (k : IntKind) (w : World) (a : Option Addr) (len cap : Nat) (zs : List Int) : Prop :=
  (a = none ∧ len = 0 ∧ cap = 0 ∧ zs = []) ∨
  ∃ x, a = some x ∧ len ≤ cap ∧ cap ≤ maxLen ∧ zs.length = cap ∧ (∀ i, i < zs.length → w.cell? (x.add i) = some (.int k (zs.getD i 0))) ∧ ∀ n ∈ zs, (Lit.int k n).wf = true

/-! ### STEP 1: THE WALK: the Go text returns true, AND WRITES NOTHING THAT WAS THERE: 'Below w.heap.size w w'' (Derived/Below.lean: '.refl', '.alloc', '.drew', '.setCell' at a new block, '.trans'). Open each 'IsRow' by 'rcases' AHEAD of 'go_enter'; part every test ahead of the walk. -/
set_option maxHeartbeats 2000000 in
set_option maxRecDepth 100000 in
theorem walk (a0 : Option Addr) (len0 cap0 : Nat) (z0 : List Int) (a1 : Option Addr) (len1 cap1 : Nat) (z1 : List Int) (w : World) (w0 : IsRow .u8 w a0 len0 cap0 z0) (w1 : IsRow .u8 w a1 len1 cap1 z1) :
    Calls Try.prog 4 #[.slice a0 len0 cap0, .slice a1 len1 cap1] w fun e w' => e = .returned (.bool true) ∧ Below w.heap.size w w' := by
  have HW0 : Hid (IsRow .u8 w a0 len0 cap0 z0) := w0
  have HW1 : Hid (IsRow .u8 w a1 len1 cap1 z1) := w1
  have hml0 := row_len w0
  have hml1 := row_len w1
  have hz0 : Hid (∀ i, zf z0 i < 256) := zf_lt w0
  have hz1 : Hid (∀ i, zf z1 i < 256) := zf_lt w1
  clear w0 w1
  unfold maxLen at hml0 hml1
  by_cases h1 : len0 ≤ 1048576
  · by_cases h2 : len1 ≤ 1048576
    · by_cases h3 : len0 + len1 ≤ 1048576
      · by_cases h4 : len0 ≤ 262144
        · by_cases h5 : len1 ≤ 262144
          · obtain ⟨i5, hi5, hz50, hz51, hz52⟩ := info_parts infoB
            go_enter Try.func4, Try.ntmps4
            go_upto_region 8 with (first
              | (go_at_call 11; refine (clone_any _ _ _ z0 _ (by omega) HW0.out).mono ?_; rintro e w2 ⟨ao0, rfl, hB0, hl2⟩)
              | go_in)
            have HB0 : Hid (Bytes w2 ao0 len0 (zf z0)) := hB0
            have HW1' : Hid (IsRow .u8 w2 a1 len1 cap1 z1) := row_later hl2 HW1.out
            clear hB0 HW0 HW1
            go_upto_region 9 with (go_at_call 11; refine (clone_any _ _ _ z1 _ (by omega) HW1'.out).mono ?_; rintro e w3 ⟨ao1, rfl, hB1, hl3⟩)
            have HB1 : Hid (Bytes w3 ao1 len1 (zf z1)) := hB1
            have HB0' : Hid (Bytes w3 ao0 len0 (zf z0)) := bytes_later HB0.out hl3
            have hl3' : Below w.heap.size w w3 := hl2.trans (hl3.mono hl2.size)
            clear hB1 HB0 HW1' hl2 hl3
            go_wp2_with (at_make; refine wpList_make_own _ rfl _ _ 22 rfl w3.heap.size 5 i5 (.int .u8 0) 1 Try.underlying22 hi5 hz50 hz51 _ _ _ (2 * len0) rfl rfl (by omega) (by rw [hz52]; omega) (by unfold maxLen; omega) (Nat.le_refl _) ?_; intro w4 v4 g4)
            have l4 : Below w3.heap.size w3 w4 := (Below.refl _ _).grown g4 (Nat.le_refl _) (fun _ h => by cases h)
            clear g4
            go_loopw [5, 6] (fun v x wr => ∃ i : Nat, i ≤ len0 ∧ x = .int .i64 i ∧ v = .slice (some ⟨w3.heap.size, 0, none⟩) (2 * i) (2 * len0) ∧ wr.ownsRow w3.heap.size 5 1 (.slice (some ⟨w3.heap.size, 0, none⟩) (2 * i) (2 * len0)) (2 * i) (escV (zf z0) (2 * i)) ∧ Below w3.heap.size w3 wr) (fun _ x _ => len0 - (intOf x).toNat)
            case atStart => exact ⟨0, Nat.zero_le _, rfl, rfl, v4, l4⟩
            case round =>
              clear v4 l4
              obtain ⟨i, hi, rfl, rfl, hown, l⟩ := hrel
              have zl := l.size
              by_cases hlt : i < len0
              · rcases HB0'.out with h0 | ⟨b, off, rfl, hc⟩
                · omega
                · have c0 := hc i hlt
                  have hbl := World.block_lt_of_cell? w3 _ c0
                  have c1 := (l.cell (p := ⟨b, off + i, none⟩) hbl).trans c0
                  clear hc c0
                  go_wp2_with (at_builtin; refine wpList_append_fits _ rfl (.tmp 39) (.tmp 44) 22 rfl w3.heap.size 5 i5 1 Try.underlying22 hi5 hz51 w3.heap.size (2 * i) (2 * len0) _ rfl (hown.alloc _) ⟨wr.heap.size, 0, none⟩ 2 2 [.int .u8 92, .int .u8 (zf z0 i)] rfl rfl (two_new _ _ _ _) (by intro u hu; simp at hu; rcases hu with rfl | rfl <;> rfl) (by omega) ?_; intro w5 v5 g5)
                  go_roundw
                  case rel =>
                    rw [escV_next] at v5
                    exact ⟨i + 1, by omega, by go_num, by rw [show 2 * (i + 1) = 2 * i + 2 by omega], by rw [show 2 * (i + 1) = 2 * i + 2 by omega]; exact v5, (l.alloc (by omega) _).grown g5 (by rw [World.size_alloc]; omega) (by intro k hk; injection hk with hk; omega)⟩
                  case measure => simp [intOf]; omega
              · have e : i = len0 := by omega
                subst e
                have kc := esc_string hz0.out hown
                have HA0 : Hid (Bytes wr ao0 i (zf z0)) := bytes_later HB0'.out l
                have HA1 : Hid (Bytes wr ao1 len1 (zf z1)) := bytes_later HB1.out l
                clear HB0' HB1 hown hi5 hz50 hz51 hz52
                go_wp2_with (first
                  | (go_at_call 12; refine (esc_call (zf z0) (zf z1) _ _ _ _ _ (by omega) (by omega) hz0.out hz1.out HA1.out).mono ?_; rintro e w5 ⟨rfl, k, rfl⟩)
                  | (go_at_call 15; refine (sameBytes_any _ _ _ _ _ _ (zf z0) (zf z1) _ (by omega) (by omega) (bytes_drewN HA0.out k) (bytes_drewN HA1.out k)).mono ?_; rintro e w6 ⟨rfl, k2, rfl⟩))
                go_ret
                exact ⟨rfl, below_drewN (hl3'.trans (l.mono hl3'.size)) _⟩
          · go_enter Try.func4, Try.ntmps4
            go_wp2
            go_ret
            exact ⟨rfl, Below.refl _ _⟩
        · go_enter Try.func4, Try.ntmps4
          go_wp2
          go_ret
          exact ⟨rfl, Below.refl _ _⟩
      · go_enter Try.func4, Try.ntmps4
        go_wp2
        go_ret
        exact ⟨rfl, Below.refl _ _⟩
    · go_enter Try.func4, Try.ntmps4
      go_wp2
      go_ret
      exact ⟨rfl, Below.refl _ _⟩
  · go_enter Try.func4, Try.ntmps4
    go_wp2
    go_ret
    exact ⟨rfl, Below.refl _ _⟩

/-! ### THE ROW's STEP: WRITTEN OUT: LEAVE IT -/
set_option maxRecDepth 100000 in
theorem lifted (os : Os) (started : os.Started) (H : Type) (enc : TypeId × Value → H) :
    ReturnsInHanded {} Try.checked os 4 .any (Rows.fnGlobEscapedNameIsExactLiteralSpec.pre6 enc Try.prog Try.f4 Rows.fnGlobEscapedNameIsExactLiteralRow.domain false) (Rows.fnGlobEscapedNameIsExactLiteralSpec.post enc Try.prog Try.f4 false true false false) := by
  refine returnsInHanded_of_change (C := Try.checked) own started (by kernel_rfl) Try.func4
    (ChangeSpec.witness6 (enc := enc) (C := Try.checked) false ⟨#[], #[.slice none 0 0, .slice none 0 0], []⟩ 8 (by kernel_rfl) (by kernel_rfl) (by kernel_rfl) (by kernel_rfl)) ?_
  intro W base args ds gs before hval0 hW hcnd _
  have hval : ∀ (j : Nat) t v, Try.f4.params[j]? = some t → args[j]? = some v → Value.okWide Try.prog W .any base t v := hval0
  have hW' := hW
  obtain ⟨p, q, hA0, hV, rfl, hfz, hnd⟩ := hW
  have hA : DataW.TrodAll enc Try.prog W 0 (fun _ => true) true Try.f4.params.toList args.toList ds p := hA0
  rw [Try.params4] at hA hval
  obtain ⟨v0, vs0, d0, ds0, p0, q0, hargs, rfl, rfl, h0, r0⟩ := trodAll_cons hA
  obtain ⟨v1, vs1, d1, ds1, p1, q1, rfl, rfl, rfl, h1, r1⟩ := trodAll_cons r0
  obtain ⟨rfl, rfl, rfl⟩ := trodAll_nil r1
  obtain rfl : args = #[v0, v1] := by cases args; simp_all
  obtain ⟨rfl, rfl⟩ := trodVars_none hV
  obtain ⟨a0, len0, cap0, rfl⟩ := okWide_slice Try.underlying22 (hval 0 22 v0 rfl rfl)
  have k0 := h0
  have lt0 : ∀ x ∈ p0, x.block < W.heap.size := by obtain ⟨m, hm⟩ := k0; exact DataW.trod_lt m _ _ _ hm
  obtain ⟨z0, w0⟩ : ∃ zs, IsRow .u8 W a0 len0 cap0 zs := by
    obtain ⟨fuel, hf⟩ := h0
    rcases open_ints Try.underlying22 Try.underlying5 (by kernel_rfl) hf with ⟨hcs, _⟩ | ⟨x, l, c, zs, hcs, _, hl, hm, hz, _, hcell, hwz⟩
    · simp [Value.cells] at hcs
      obtain ⟨rfl, rfl, rfl⟩ := hcs
      exact ⟨[], .inl ⟨rfl, rfl, rfl, rfl⟩⟩
    · simp [Value.cells] at hcs
      obtain ⟨rfl, rfl, rfl⟩ := hcs
      exact ⟨zs, .inr ⟨_, rfl, hl, hm, by simpa using hz, hcell, hwz⟩⟩
  obtain ⟨a1, len1, cap1, rfl⟩ := okWide_slice Try.underlying22 (hval 1 22 v1 rfl rfl)
  have k1 := h1
  have lt1 : ∀ x ∈ p1, x.block < W.heap.size := by obtain ⟨m, hm⟩ := k1; exact DataW.trod_lt m _ _ _ hm
  obtain ⟨z1, w1⟩ : ∃ zs, IsRow .u8 W a1 len1 cap1 zs := by
    obtain ⟨fuel, hf⟩ := h1
    rcases open_ints Try.underlying22 Try.underlying5 (by kernel_rfl) hf with ⟨hcs, _⟩ | ⟨x, l, c, zs, hcs, _, hl, hm, hz, _, hcell, hwz⟩
    · simp [Value.cells] at hcs
      obtain ⟨rfl, rfl, rfl⟩ := hcs
      exact ⟨[], .inl ⟨rfl, rfl, rfl, rfl⟩⟩
    · simp [Value.cells] at hcs
      obtain ⟨rfl, rfl, rfl⟩ := hcs
      exact ⟨zs, .inr ⟨_, rfl, hl, hm, by simpa using hz, hcell, hwz⟩⟩
  clear hA0 hval0
  refine (walk a0 len0 cap0 z0 a1 len1 cap1 z1 W w0 w1).mono fun e W' ⟨he, bel⟩ => ?_
  subst he
  exact ⟨_, rfl, _, _, _, [], _, [], hW', trodAll_mk1 (shut_bool Try.underlying4 _), (trodAll_cons_mk (Below.trod laidOut (by kernel_rfl) (of_decide_eq_true (by kernel_rfl)) k0 bel lt0) (trodAll_cons_mk (Below.trod laidOut (by kernel_rfl) (of_decide_eq_true (by kernel_rfl)) k1 bel lt1) trodAll_mk0)), rfl, bel.frame _, fun h => by cases h⟩

theorem over : Rows.fnGlobEscapedNameIsExactLiteralRow.holds Try.pinned (OpenSpec.ofChange Rows.fnGlobEscapedNameIsExactLiteralSpec) :=
  OpenClaim.holds_of_wide 4 Try.f4 rfl rfl rfl rfl rfl rfl rfl ⟨rfl, rfl, rfl, rfl, rfl⟩ rfl rfl rfl rfl rfl (by kernel_rfl) Try.func4 (by kernel_rfl)
    (of_decide_eq_true (by kernel_rfl)) (by unfold Func.isWrapper; first | (rw [if_pos (by decide +kernel)]; kernel_rfl) | (rw [if_neg (by decide +kernel)]; exact ⟨rfl, rfl⟩))
    (fun os started H enc _ => lifted os started H enc)

/-- ████ THE STATEMENT ████ -/
theorem proved : Rows.FnGlobEscapedNameIsExactLiteralSaid := over
#print axioms proved
end Go.Proofs.Qxb6603803a.fnGlobEscapedNameIsExactLiteral
