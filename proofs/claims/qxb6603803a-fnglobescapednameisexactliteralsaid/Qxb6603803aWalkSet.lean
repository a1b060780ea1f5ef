/-
  THE WALKS of setByte (29), matchSet (27), ZZmatchSet (18).
-/
import Derived.Test.Qxb6603803aRows
import Derived.Test.Qxb6603803aPlain
import Derived.WalkKit
import Derived.ProofKit
import Derived.WalkLawsBesides
import Derived.Deep.DeepCutAuto
namespace Go.Proofs.Qxb6603803a
open Go.ChangeShapes Go.WideShapes Go.ChangeAt Go.RowKit
set_option linter.unusedVariables false

theorem ret_two {k j : IntKind} {a b c d : Int} (h1 : a = b) (h2 : c = d) : Ending.returned (.tuple #[.int k a, .int j c]) = .returned (.tuple #[.int k b, .int j d]) := by rw [h1, h2]

set_option maxHeartbeats 400000 in
theorem setByte_any (s : ByteArray) (p : Nat) (w : World) (hs : s.size ≤ 1048576) (hp : p < s.size) :
    Calls Try.prog 29 #[.string s, .int .i64 p] w fun e w' => e = .returned (.tuple #[.int .u8 (sbB (bt s) s.size p), .int .i64 (sbN (bt s) s.size p)]) ∧ w' = w := by
  have hb : ∀ k (h : k < s.size), (s[k]'h).toNat = bt s k := bt_eq s
  by_cases h1 : bt s p = 92
  · by_cases h2 : p + 1 < s.size
    · have e1 : sbB (bt s) s.size p = bt s (p + 1) := by unfold sbB; rw [if_pos ⟨h1, h2⟩]
      have e2 : sbN (bt s) s.size p = p + 2 := by unfold sbN; rw [if_pos ⟨h1, h2⟩]
      rw [e1, e2]; clear e1 e2
      go_enter Try.func29, Try.ntmps29
      go_wp2
      go_ret2
      exact ⟨ret_two rfl (by omega), rfl⟩
    · have e1 : sbB (bt s) s.size p = bt s p := by unfold sbB; rw [if_neg (by omega)]
      have e2 : sbN (bt s) s.size p = p + 1 := by unfold sbN; rw [if_neg (by omega)]
      rw [e1, e2]; clear e1 e2
      go_enter Try.func29, Try.ntmps29
      go_wp2
      go_ret2
      exact ⟨ret_two (by omega) (by omega), rfl⟩
  · have e1 : sbB (bt s) s.size p = bt s p := by unfold sbB; rw [if_neg (by omega)]
    have e2 : sbN (bt s) s.size p = p + 1 := by unfold sbN; rw [if_neg (by omega)]
    rw [e1, e2]; clear e1 e2
    go_enter Try.func29, Try.ntmps29
    go_wp2
    go_ret2
    exact ⟨ret_two rfl (by omega), rfl⟩

theorem ret_ib {k : IntKind} {a b : Int} {c d : Bool} (h1 : a = b) (h2 : c = d) : Ending.returned (.tuple #[.int k a, .bool c]) = .returned (.tuple #[.int k b, .bool d]) := by rw [h1, h2]

set_option maxHeartbeats 1000000 in
theorem matchSet_neg (s : ByteArray) (p c : Nat) (w : World) (hs : s.size ≤ 1048576) (h1 : p < s.size) (h2 : bt s p = 94) (hc : c < 256) :
    Calls Try.prog 27 #[.string s, .int .i64 p, .int .u8 c] w fun e w' => e = .returned (.tuple #[.int .i64 (msN (bt s) s.size p c), .bool (msB (bt s) s.size p c)]) ∧ w' = w := by
      have hb : ∀ k (h : k < s.size), (s[k]'h).toNat = bt s k := bt_eq s
      have HN : Hid (neg (bt s) s.size p = true) := neg_yes h1 h2
      have HS : Hid (st0 (bt s) s.size p = p + 1) := st0_yes HN.out
      go_enter Try.func27, Try.ntmps27
      go_wp2
      go_loop [1, 9] (fun i b => ∃ k : Nat, ∃ d : Bool, k ≤ s.size ∧ i = .int .i64 k ∧ b = .bool d ∧ Hid (sl (bt s) s.size c k d = sl (bt s) s.size c (st0 (bt s) s.size p) false)) (fun i _ => s.size - (intOf i).toNat)
      case atStart => exact ⟨p + 1, false, h1, by go_num, rfl, by rw [HS.out]; rfl⟩
      case round =>
        obtain ⟨k, d, hk, rfl, rfl, H⟩ := hrel
        by_cases hlt : k < s.size
        · by_cases h93 : bt s k = 93
          · have E := ms_end (p := p) (by omega) H.out
            have E1 : Hid (msN (bt s) s.size p c = k + 1) := by rw [E.1]; exact past_lt hlt
            have E2 : Hid (msB (bt s) s.size p c = (d != true)) := by rw [E.2, HN.out]; rfl
            clear E
            go_wp2
            go_ret2
            exact ⟨ret_ib (by rw [E1.out]; omega) (by rw [E2.out]; cases d <;> rfl), rfl⟩
          · have g1 := sbN_gt (bt s) s.size k
            have g2 := sbN_le (bt s) s.size k hlt
            by_cases r1 : sbN (bt s) s.size k + 1 < s.size
            · by_cases r2 : bt s (sbN (bt s) s.size k) = 45
              · by_cases r3 : bt s (sbN (bt s) s.size k + 1) = 93
                · go_wp2_with (go_at_call 29; refine (setByte_any _ _ _ (by omega) (by omega)).mono ?_; rintro e w' ⟨rfl, rfl⟩)
                  all_goals
                    go_round
                    case rel =>
                      have HR := isR_no (f := bt s) (n := s.size) (k := k) (by omega)
                      refine ⟨_, _, g2, rfl, rfl, sl_go hlt h93 (aft_no HR) ?_ H.out⟩
                      first
                        | exact hx_true ‹_›
                        | (refine hx_dec ‹_› rfl (hiB_no HR) ?_; first | exact decide_eq_false (by omega) | (rw [decide_eq_decide]; omega) | (rw [decide_eq_decide]; split <;> omega))
                    case measure => simp [intOf]; omega
                · have g3 := sbN_gt (bt s) s.size (sbN (bt s) s.size k + 1)
                  have g4 := sbN_le (bt s) s.size (sbN (bt s) s.size k + 1) r1
                  go_wp2_with (go_at_call 29; refine (setByte_any _ _ _ (by omega) (by omega)).mono ?_; rintro e w' ⟨rfl, rfl⟩)
                  all_goals
                    go_round
                    case rel =>
                      have HR := isR_yes r1 r2 r3
                      refine ⟨_, _, g4, rfl, rfl, sl_go hlt h93 (aft_yes HR) ?_ H.out⟩
                      first
                        | exact hx_true ‹_›
                        | (refine hx_dec ‹_› rfl (hiB_yes HR) ?_; first | exact decide_eq_false (by omega) | (rw [decide_eq_decide]; omega) | (rw [decide_eq_decide]; split <;> omega))
                    case measure => simp [intOf]; omega
              · go_wp2_with (go_at_call 29; refine (setByte_any _ _ _ (by omega) (by omega)).mono ?_; rintro e w' ⟨rfl, rfl⟩)
                all_goals
                  go_round
                  case rel =>
                    have HR := isR_no (f := bt s) (n := s.size) (k := k) (by omega)
                    refine ⟨_, _, g2, rfl, rfl, sl_go hlt h93 (aft_no HR) ?_ H.out⟩
                    first
                      | exact hx_true ‹_›
                      | (refine hx_dec ‹_› rfl (hiB_no HR) ?_; first | exact decide_eq_false (by omega) | (rw [decide_eq_decide]; omega) | (rw [decide_eq_decide]; split <;> omega))
                  case measure => simp [intOf]; omega
            · go_wp2_with (go_at_call 29; refine (setByte_any _ _ _ (by omega) (by omega)).mono ?_; rintro e w' ⟨rfl, rfl⟩)
              all_goals
                go_round
                case rel =>
                  have HR := isR_no (f := bt s) (n := s.size) (k := k) (by omega)
                  refine ⟨_, _, g2, rfl, rfl, sl_go hlt h93 (aft_no HR) ?_ H.out⟩
                  first
                    | exact hx_true ‹_›
                    | (refine hx_dec ‹_› rfl (hiB_no HR) ?_; first | exact decide_eq_false (by omega) | (rw [decide_eq_decide]; omega) | (rw [decide_eq_decide]; split <;> omega))
                case measure => simp [intOf]; omega
        · have E := ms_end (p := p) (by omega) H.out
          have E1 : Hid (msN (bt s) s.size p c = k) := by rw [E.1]; exact past_ge hlt
          have E2 : Hid (msB (bt s) s.size p c = (d != true)) := by rw [E.2, HN.out]; rfl
          clear E
          go_wp2
          go_ret2
          exact ⟨ret_ib (by rw [E1.out]) (by rw [E2.out]; cases d <;> rfl), rfl⟩

set_option maxHeartbeats 1000000 in
theorem matchSet_pos (s : ByteArray) (p c : Nat) (w : World) (hs : s.size ≤ 1048576) (h1 : p < s.size) (h2 : ¬ bt s p = 94) (hc : c < 256) :
    Calls Try.prog 27 #[.string s, .int .i64 p, .int .u8 c] w fun e w' => e = .returned (.tuple #[.int .i64 (msN (bt s) s.size p c), .bool (msB (bt s) s.size p c)]) ∧ w' = w := by
      have hb : ∀ k (h : k < s.size), (s[k]'h).toNat = bt s k := bt_eq s
      have HN : Hid (neg (bt s) s.size p = false) := neg_no (by omega)
      have HS : Hid (st0 (bt s) s.size p = p) := st0_no HN.out
      have h2' : ((bt s p : Int) == 94) = false := by simp; omega
      clear h2
      go_enter Try.func27, Try.ntmps27
      go_wp2
      go_loop [1, 9] (fun i b => ∃ k : Nat, ∃ d : Bool, k ≤ s.size ∧ i = .int .i64 k ∧ b = .bool d ∧ Hid (sl (bt s) s.size c k d = sl (bt s) s.size c (st0 (bt s) s.size p) false)) (fun i _ => s.size - (intOf i).toNat)
      case atStart => exact ⟨p, false, Nat.le_of_lt h1, rfl, rfl, by rw [HS.out]; rfl⟩
      case round =>
        obtain ⟨k, d, hk, rfl, rfl, H⟩ := hrel
        by_cases hlt : k < s.size
        · by_cases h93 : bt s k = 93
          · have E := ms_end (p := p) (by omega) H.out
            have E1 : Hid (msN (bt s) s.size p c = k + 1) := by rw [E.1]; exact past_lt hlt
            have E2 : Hid (msB (bt s) s.size p c = (d != false)) := by rw [E.2, HN.out]; rfl
            clear E
            go_wp2
            go_ret2
            exact ⟨ret_ib (by rw [E1.out]; omega) (by rw [E2.out]; cases d <;> rfl), rfl⟩
          · have g1 := sbN_gt (bt s) s.size k
            have g2 := sbN_le (bt s) s.size k hlt
            by_cases r1 : sbN (bt s) s.size k + 1 < s.size
            · by_cases r2 : bt s (sbN (bt s) s.size k) = 45
              · by_cases r3 : bt s (sbN (bt s) s.size k + 1) = 93
                · go_wp2_with (go_at_call 29; refine (setByte_any _ _ _ (by omega) (by omega)).mono ?_; rintro e w' ⟨rfl, rfl⟩)
                  all_goals
                    go_round
                    case rel =>
                      have HR := isR_no (f := bt s) (n := s.size) (k := k) (by omega)
                      refine ⟨_, _, g2, rfl, rfl, sl_go hlt h93 (aft_no HR) ?_ H.out⟩
                      first
                        | exact hx_true ‹_›
                        | (refine hx_dec ‹_› rfl (hiB_no HR) ?_; first | exact decide_eq_false (by omega) | (rw [decide_eq_decide]; omega) | (rw [decide_eq_decide]; split <;> omega))
                    case measure => simp [intOf]; omega
                · have g3 := sbN_gt (bt s) s.size (sbN (bt s) s.size k + 1)
                  have g4 := sbN_le (bt s) s.size (sbN (bt s) s.size k + 1) r1
                  go_wp2_with (go_at_call 29; refine (setByte_any _ _ _ (by omega) (by omega)).mono ?_; rintro e w' ⟨rfl, rfl⟩)
                  all_goals
                    go_round
                    case rel =>
                      have HR := isR_yes r1 r2 r3
                      refine ⟨_, _, g4, rfl, rfl, sl_go hlt h93 (aft_yes HR) ?_ H.out⟩
                      first
                        | exact hx_true ‹_›
                        | (refine hx_dec ‹_› rfl (hiB_yes HR) ?_; first | exact decide_eq_false (by omega) | (rw [decide_eq_decide]; omega) | (rw [decide_eq_decide]; split <;> omega))
                    case measure => simp [intOf]; omega
              · go_wp2_with (go_at_call 29; refine (setByte_any _ _ _ (by omega) (by omega)).mono ?_; rintro e w' ⟨rfl, rfl⟩)
                all_goals
                  go_round
                  case rel =>
                    have HR := isR_no (f := bt s) (n := s.size) (k := k) (by omega)
                    refine ⟨_, _, g2, rfl, rfl, sl_go hlt h93 (aft_no HR) ?_ H.out⟩
                    first
                      | exact hx_true ‹_›
                      | (refine hx_dec ‹_› rfl (hiB_no HR) ?_; first | exact decide_eq_false (by omega) | (rw [decide_eq_decide]; omega) | (rw [decide_eq_decide]; split <;> omega))
                  case measure => simp [intOf]; omega
            · go_wp2_with (go_at_call 29; refine (setByte_any _ _ _ (by omega) (by omega)).mono ?_; rintro e w' ⟨rfl, rfl⟩)
              all_goals
                go_round
                case rel =>
                  have HR := isR_no (f := bt s) (n := s.size) (k := k) (by omega)
                  refine ⟨_, _, g2, rfl, rfl, sl_go hlt h93 (aft_no HR) ?_ H.out⟩
                  first
                    | exact hx_true ‹_›
                    | (refine hx_dec ‹_› rfl (hiB_no HR) ?_; first | exact decide_eq_false (by omega) | (rw [decide_eq_decide]; omega) | (rw [decide_eq_decide]; split <;> omega))
                case measure => simp [intOf]; omega
        · have E := ms_end (p := p) (by omega) H.out
          have E1 : Hid (msN (bt s) s.size p c = k) := by rw [E.1]; exact past_ge hlt
          have E2 : Hid (msB (bt s) s.size p c = (d != false)) := by rw [E.2, HN.out]; rfl
          clear E
          go_wp2
          go_ret2
          exact ⟨ret_ib (by rw [E1.out]) (by rw [E2.out]; cases d <;> rfl), rfl⟩

set_option maxHeartbeats 1000000 in
theorem matchSet_end (s : ByteArray) (p c : Nat) (w : World) (hs : s.size ≤ 1048576) (h1 : p = s.size) (hc : c < 256) :
    Calls Try.prog 27 #[.string s, .int .i64 p, .int .u8 c] w fun e w' => e = .returned (.tuple #[.int .i64 (msN (bt s) s.size p c), .bool (msB (bt s) s.size p c)]) ∧ w' = w := by
      have HN : Hid (neg (bt s) s.size p = false) := neg_no (by omega)
      have HS : Hid (st0 (bt s) s.size p = p) := st0_no HN.out
      have E := ms_end (f := bt s) (n := s.size) (p := p) (c := c) (k := p) (d := false) (by omega) (by rw [HS.out])
      have E1 : Hid (msN (bt s) s.size p c = p) := by rw [E.1]; exact past_ge (by omega)
      have E2 : Hid (msB (bt s) s.size p c = (false != false)) := by rw [E.2, HN.out]; rfl
      clear E HN HS
      have hge : s.size ≤ p := by omega
      clear h1
      go_enter Try.func27, Try.ntmps27
      go_wp2
      go_loop [1, 9] (fun i b => i = .int .i64 p ∧ b = .bool false) (fun _ _ => 0)
      case atStart => exact ⟨rfl, rfl⟩
      case round =>
        obtain ⟨rfl, rfl⟩ := hrel
        go_wp2
        go_ret2
        exact ⟨ret_ib (by rw [E1.out]) (by rw [E2.out]; rfl), rfl⟩

theorem matchSet_any (s : ByteArray) (p c : Nat) (w : World) (hs : s.size ≤ 1048576) (hp : p ≤ s.size) (hc : c < 256) :
    Calls Try.prog 27 #[.string s, .int .i64 p, .int .u8 c] w fun e w' => e = .returned (.tuple #[.int .i64 (msN (bt s) s.size p c), .bool (msB (bt s) s.size p c)]) ∧ w' = w := by
  by_cases h1 : p < s.size
  · by_cases h2 : bt s p = 94
    · exact matchSet_neg s p c w hs h1 h2 hc
    · exact matchSet_pos s p c w hs h1 h2 hc
  · exact matchSet_end s p c w hs (by omega) hc

theorem zzMatchSet_any (s : ByteArray) (p c : Nat) (w : World) (hs : s.size ≤ 1048576) (hp : p ≤ s.size) (hc : c < 256) :
    Calls Try.prog 18 #[.string s, .int .i64 p, .int .u8 c] w fun e w' => e = .returned (.tuple #[.int .i64 (msN (bt s) s.size p c), .bool (msB (bt s) s.size p c)]) ∧ w' = w := by
  go_enter Try.func18, Try.ntmps18
  go_wp2_with (go_at_call 27; refine (matchSet_any _ _ _ _ (by omega) (by omega) (by omega)).mono ?_; rintro e w' ⟨rfl, rfl⟩)
  go_ret2
  exact ⟨rfl, rfl⟩
end Go.Proofs.Qxb6603803a
