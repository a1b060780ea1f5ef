/-
  THE SHELL OF A PROOF OF 'Rows.FnByteAgreesWithGlobOnOneByteSaid' ('example.com/bulkwire/bulkwire/zzlaws_server_b1.FnByteAgreesWithGlobOnOneByte'), WRITTEN BY PROGRAM (proof-skeleton.mjs) off the guide's own print for that function. Not trusted: Lean checks it.
-/
import Derived.Test.Qxb6603803aRows
import Derived.Test.Qxb6603803aWalkGlob
import Derived.Test.Qxb6603803aCut
import Derived.Test.Qxb6603803aMem
import Derived.WalkSpells
import Derived.WalkKit
import Derived.ProofKit
import Derived.OpenShut
import Derived.ShutString
namespace Go.Proofs.Qxb6603803a.fnByteAgreesWithGlobOnOneByte
open Go.ChangeShapes Go.WideShapes Go.ChangeAt Go.RowKit
open Go.ChangeMaps (open_string shut_string)
set_option linter.unusedVariables false      -- a walk need not use every 'w<i>' (that an integer argument fits its kind)

theorem own : ownKnob Try.prog.godebug = none := by kernel_rfl

/-- matchGlob at the cut-out element and the one-byte name c. -/
theorem cut_call (s : ByteArray) (p c b cap : Nat) (W : World) (hs : s.size ≤ 1048576) (hp : p < s.size) (h42 : ¬ bt s p = 42) (hc : c < 256) (hcell : W.cell? ⟨b, 0, none⟩ = some (.int .u8 c)) :
    Calls Try.prog 12 #[.string (s.extract p (mbN (bt s) s.size p)), .slice (some ⟨b, 0, none⟩) 1 cap] W fun e w' => e = .returned (.bool (mbB (bt s) s.size p c)) ∧ ∃ k, w' = W.drewN k := by
  have hb := mbN_bd (bt s) s.size p hp
  have hz : (s.extract p (mbN (bt s) s.size p)).size = mbN (bt s) s.size p - p := by rw [ByteArray.size_extract]; omega
  have E := one_byte (z := fun _ => c) rfl hp h42 hz (fun k hk => bt_extract s p (mbN (bt s) s.size p) k hb.2 (by omega))
  refine (zzMatchGlob_any _ _ 1 cap (fun _ => c) W (by rw [hz]; omega) (by omega) (fun _ => hc) (.inr ⟨b, 0, rfl, ?_⟩)).mono fun e w' ⟨he, hw⟩ => ⟨?_, hw⟩
  · intro i hi
    rw [show (0 + i) = 0 by omega]; exact hcell
  · rw [he, E]

/-! ### STEP 1: THE WALK: the Go text returns true. 'Grown w w'': the world has at most new blocks (Derived/RowKit3.lean). Part the cases AHEAD of 'go_enter' where a test parts the walk; take each callee by a contract of your own. -/
theorem walk (a0 : ByteArray) (a1 : Int) (a2 : Int) (w0 : a0.size ≤ maxLen) (w1 : (Lit.int .i64 a1).wf = true) (w2 : (Lit.int .u8 a2).wf = true) (w : World) :
    Calls Try.prog 9 #[.string a0, .int .i64 a1, .int .u8 a2] w fun e w' => e = .returned (.bool true) ∧ Grown w w' := by
  by_cases hs : a0.size ≤ 1048576
  · by_cases hlo : a1 < 0
    · go_enter Try.func9, Try.ntmps9
      go_wp2
      go_ret
      exact ⟨rfl, Grown.refl _⟩
    · by_cases hhi : (a0.size : Int) ≤ a1
      · go_enter Try.func9, Try.ntmps9
        go_wp2
        go_ret
        exact ⟨rfl, Grown.refl _⟩
      · obtain ⟨p, rfl⟩ : ∃ p : Nat, a1 = p := ⟨a1.toNat, by omega⟩
        have hb : ∀ k (h : k < a0.size), (a0[k]'h).toNat = bt a0 k := bt_eq a0
        have b2 := bounds_u8 w2
        obtain ⟨c, rfl⟩ : ∃ c : Nat, a2 = c := ⟨a2.toNat, by omega⟩
        clear w0 w1 w2
        have hp : p < a0.size := by omega
        obtain ⟨g1, g2⟩ := mbN_bd (bt a0) a0.size p hp
        have g3 : p ≤ mbN (bt a0) a0.size p := Nat.le_of_lt g1
        by_cases h42 : bt a0 p = 42
        · go_enter Try.func9, Try.ntmps9
          go_wp2
          go_ret
          exact ⟨rfl, Grown.refl _⟩
        · have H42 : Hid (¬ bt a0 p = 42) := h42
          have h42' : ((bt a0 p : Int) == 42) = false := by simp; omega
          clear h42
          go_enter Try.func9, Try.ntmps9
          go_wp2_with (first
            | (go_at_call 23; refine (zzMatchByte_any _ _ _ _ (by omega) (by omega) (by omega)).mono ?_; rintro e w' ⟨rfl, k, rfl⟩)
            | (go_at_call 24; go_in)
            | fail)
          refine (cut_call a0 p c w.heap.size 1 _ hs hp H42.out (by omega) (by exact (Blk.new (w.drewN k) #[.int .u8 c] 5).cell 0)).mono ?_
          rintro e w' ⟨rfl, k2, rfl⟩
          go_wp2
          go_ret
          exact ⟨rfl, Grown.alloc (w' := w.drewN k) (Grown.refl w) _ _⟩
  · go_enter Try.func9, Try.ntmps9
    go_wp2
    go_ret
    exact ⟨rfl, Grown.refl _⟩

/-! ### THE ROW's STEP: WRITTEN OUT: LEAVE IT -/
set_option maxRecDepth 100000 in
theorem lifted (os : Os) (started : os.Started) (H : Type) (enc : TypeId × Value → H) :
    ReturnsInHanded {} Try.checked os 9 .any (Rows.fnByteAgreesWithGlobOnOneByteSpec.pre6 enc Try.prog Try.f9 Rows.fnByteAgreesWithGlobOnOneByteRow.domain false) (Rows.fnByteAgreesWithGlobOnOneByteSpec.post enc Try.prog Try.f9 false true false false) := by
  refine returnsInHanded_of_change (C := Try.checked) own started (by kernel_rfl) Try.func9
    (ChangeSpec.witness6 (enc := enc) (C := Try.checked) false ⟨#[], #[.string ByteArray.empty, .int .i64 0, .int .u8 0], []⟩ 8 (by kernel_rfl) (by kernel_rfl) (by kernel_rfl) (by kernel_rfl)) ?_
  intro W base args ds gs before hval0 hW hcnd _
  have hval : ∀ (j : Nat) t v, Try.f9.params[j]? = some t → args[j]? = some v → Value.okWide Try.prog W .any base t v := hval0
  have hW' := hW
  obtain ⟨p, q, hA0, hV, rfl, hfz, hnd⟩ := hW
  have hA : DataW.TrodAll enc Try.prog W 0 (fun _ => true) true Try.f9.params.toList args.toList ds p := hA0
  rw [Try.params9] at hA hval
  obtain ⟨v0, vs0, d0, ds0, p0, q0, hargs, rfl, rfl, h0, r0⟩ := trodAll_cons hA
  obtain ⟨v1, vs1, d1, ds1, p1, q1, rfl, rfl, rfl, h1, r1⟩ := trodAll_cons r0
  obtain ⟨v2, vs2, d2, ds2, p2, q2, rfl, rfl, rfl, h2, r2⟩ := trodAll_cons r1
  obtain ⟨rfl, rfl, rfl⟩ := trodAll_nil r2
  obtain rfl : args = #[v0, v1, v2] := by cases args; simp_all
  obtain ⟨rfl, rfl⟩ := trodVars_none hV
  obtain ⟨a0, rfl, rfl, rfl, w0⟩ := open_string Try.underlying9 (hval 0 9 v0 rfl rfl) h0
  obtain ⟨a1, rfl, rfl, rfl, w1⟩ := open_int Try.underlying3 (hval 1 3 v1 rfl rfl) h1
  obtain ⟨a2, rfl, rfl, rfl, w2⟩ := open_int Try.underlying5 (hval 2 5 v2 rfl rfl) h2
  clear hA0 hval0
  simp only [List.append_nil] at hW'
  refine (walk a0 a1 a2 w0 w1 w2 W).mono fun e W' ⟨he, hg⟩ => ?_
  subst he
  exact ⟨_, rfl, post_of_same (pa := []) (pv := []) hW' (fun _ _ _ => (trodAll_cons_mk (shut_bool Try.underlying4 _) trodAll_mk0)) (fun sp _ => (trodAll_cons_mk (shut_string Try.underlying9 w0) (trodAll_cons_mk (shut_int Try.underlying3 w1) (trodAll_cons_mk (shut_int Try.underlying5 w2) trodAll_mk0)))) (fun _ _ => rfl) rfl
    (hg.frame _) hg.2.1 (ok_one (by kernel_rfl) rfl (okWide_bool_mk Try.underlying4 _))⟩

theorem over : Rows.fnByteAgreesWithGlobOnOneByteRow.holds Try.pinned (OpenSpec.ofChange Rows.fnByteAgreesWithGlobOnOneByteSpec) :=
  OpenClaim.holds_of_wide 9 Try.f9 rfl rfl rfl rfl rfl rfl rfl ⟨rfl, rfl, rfl, rfl, rfl⟩ rfl rfl rfl rfl rfl (by kernel_rfl) Try.func9 (by kernel_rfl)
    (of_decide_eq_true (by kernel_rfl)) (by unfold Func.isWrapper; first | (rw [if_pos (by decide +kernel)]; kernel_rfl) | (rw [if_neg (by decide +kernel)]; exact ⟨rfl, rfl⟩))
    (fun os started H enc _ => lifted os started H enc)

/-- ████ THE STATEMENT ████ -/
theorem proved : Rows.FnByteAgreesWithGlobOnOneByteSaid :=
  over
#print axioms proved
end Go.Proofs.Qxb6603803a.fnByteAgreesWithGlobOnOneByte
