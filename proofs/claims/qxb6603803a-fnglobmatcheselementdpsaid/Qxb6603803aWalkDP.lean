/-
  THE WALK of modelGlob (13).
-/
import Derived.Test.Qxb6603803aWalkElem
import Derived.Test.Qxb6603803aWalkGlob
import Derived.Test.Qxb6603803aWalkClone
import Derived.Test.Qxb6603803aStore
import Derived.Test.Qxb6603803aDP
namespace Go.Proofs.Qxb6603803a
open Go.ChangeShapes Go.WideShapes Go.ChangeAt Go.RowKit
set_option linter.unusedVariables false

/-- A row of N bools as cells. -/
def tabN (T : Nat → Bool) (N : Nat) : Array Value := (tabL T N).toArray
theorem tabN_get (T : Nat → Bool) (N j : Nat) (h : j < N) : (tabN T N)[j]? = some (.bool (T j)) := by
  unfold tabN; rw [List.getElem?_toArray]; exact tabL_get T N j h
theorem tabN_set (T : Nat → Bool) (N j : Nat) (b : Bool) : (tabN T N).setIfInBounds j (.bool b) = tabN (fun v => if v = j then b else T v) N := by
  unfold tabN; rw [List.setIfInBounds_toArray, tabL_set]
theorem tabN_ext {T T' : Nat → Bool} {N : Nat} (h : ∀ v, v < N → T v = T' v) : tabN T N = tabN T' N := by
  unfold tabN; rw [tabL_ext h]
theorem tabL_zero (N : Nat) : List.replicate N (Value.bool false) = tabL (fun _ => false) N := by
  apply List.ext_getElem?
  intro i
  by_cases hi : i < N
  · rw [List.getElem?_replicate, if_pos hi, tabL_get _ _ _ hi]
  · rw [List.getElem?_eq_none (by rw [List.length_replicate]; omega), List.getElem?_eq_none (by rw [tabL_len]; omega)]
/-- A row that 'make([]bool, N)' has made. -/
theorem made_blk {w : World} {base g N : Nat} (h : w.ownsRow base 4 1 (.slice (some ⟨g, 0, none⟩) N N) N (madeCells (Value.bool false).cells (N * 1)).toList) : Blk w g (tabN (fun _ => false) N) 4 := by
  obtain ⟨cur, hb, hs, ht⟩ := owns_blk h
  rw [List.take_of_length_le (by rw [Array.length_toList]; omega)] at ht
  have e : (madeCells (Value.bool false).cells (N * 1)).toList = List.replicate N (Value.bool false) := by
    rw [Nat.mul_one]; exact toList_madeCells_one (Value.bool false) N
  rw [e, tabL_zero] at ht
  have : cur = tabN (fun _ => false) N := by unfold tabN; rw [← ht]
  rw [← this]; exact hb

/-- The two rows of the programme. -/
structure Two (B gc gn m : Nat) (C X : Nat → Bool) (w wr : World) : Prop where
  low : Below B w wr
  c0 : B ≤ gc
  n0 : B ≤ gn
  ne : gc ≠ gn
  cur : Blk wr gc (tabN C (m + 1)) 4
  nxt : Blk wr gn (tabN X (m + 1)) 4

section
variable {B gc gn m : Nat} {C X : Nat → Bool} {w wr : World}
theorem Two.cellC (h : Two B gc gn m C X w wr) {j : Nat} (hj : j < m + 1) : wr.cell? ⟨gc, j, none⟩ = some (.bool (C j)) := by rw [h.cur.cell j, tabN_get C _ j hj]
theorem Two.cellN (h : Two B gc gn m C X w wr) {j : Nat} (hj : j < m + 1) : wr.cell? ⟨gn, j, none⟩ = some (.bool (X j)) := by rw [h.nxt.cell j, tabN_get X _ j hj]
theorem Two.setN (h : Two B gc gn m C X w wr) (j : Nat) (b : Bool) : Two B gc gn m C (fun v => if v = j then b else X v) w (wr.setCell ⟨gn, j, none⟩ (.bool b)) := by
  refine ⟨h.low.setCell h.n0 _, h.c0, h.n0, h.ne, h.cur.apart h.ne _, ?_⟩
  have := h.nxt.set j (.bool b)
  rw [tabN_set] at this; exact this
theorem Two.setC (h : Two B gc gn m C X w wr) (j : Nat) (b : Bool) : Two B gc gn m (fun v => if v = j then b else C v) X w (wr.setCell ⟨gc, j, none⟩ (.bool b)) := by
  refine ⟨h.low.setCell h.c0 _, h.c0, h.n0, h.ne, ?_, h.nxt.apart (fun e => h.ne e.symm) _⟩
  have := h.cur.set j (.bool b)
  rw [tabN_set] at this; exact this
theorem Two.extN {X' : Nat → Bool} (h : Two B gc gn m C X w wr) (e : ∀ v, v < m + 1 → X v = X' v) : Two B gc gn m C X' w wr :=
  ⟨h.low, h.c0, h.n0, h.ne, h.cur, by rw [← tabN_ext e]; exact h.nxt⟩
theorem Two.extC {C' : Nat → Bool} (h : Two B gc gn m C X w wr) (e : ∀ v, v < m + 1 → C v = C' v) : Two B gc gn m C' X w wr :=
  ⟨h.low, h.c0, h.n0, h.ne, by rw [← tabN_ext e]; exact h.cur, h.nxt⟩
theorem Two.swap (h : Two B gc gn m C X w wr) : Two B gn gc m X C w wr := ⟨h.low, h.n0, h.c0, fun e => h.ne e.symm, h.nxt, h.cur⟩
theorem Two.later {w' : World} (h : Two B gc gn m C X w wr) (hB : B ≤ wr.heap.size) (hb : Below wr.heap.size wr w') : Two B gc gn m C X w w' :=
  ⟨h.low.trans (hb.mono hB), h.c0, h.n0, h.ne, h.cur.below hb h.cur.lt, h.nxt.below hb h.nxt.lt⟩
theorem Two.alloc (h : Two B gc gn m C X w wr) (hB : B ≤ wr.heap.size) (o : Obj) : Two B gc gn m C X w (wr.alloc o) :=
  ⟨h.low.alloc hB o, h.c0, h.n0, h.ne, h.cur.alloc o, h.nxt.alloc o⟩
end

theorem two_start {w w1 w2 : World} {m : Nat} (v1 : w1.ownsRow w.heap.size 4 1 (.slice (some ⟨w.heap.size, 0, none⟩) (m + 1) (m + 1)) (m + 1) (madeCells (Value.bool false).cells ((m + 1) * 1)).toList) (g1 : w.grownBy w1 none)
    (v2 : w2.ownsRow w.heap.size 4 1 (.slice (some ⟨w1.heap.size, 0, none⟩) (m + 1) (m + 1)) (m + 1) (madeCells (Value.bool false).cells ((m + 1) * 1)).toList) (g2 : w1.grownBy w2 none) :
    Two w.heap.size w.heap.size w1.heap.size m (fun _ => false) (fun _ => false) w w2 := by
  have b1 := made_blk v1
  have l1 := b1.lt
  refine ⟨?_, Nat.le_refl _, by omega, by omega, b1.grown g2 (fun h => by cases h), made_blk v2⟩
  exact ((Below.refl _ _).grown g1 (Nat.le_refl _) (fun _ h => by cases h)).grown g2 (by omega) (fun _ h => by cases h)

theorem infoL : (Try.prog.info? 4).map (fun i => (i.zero, i.size, i.bytes)) = some (some (.bool false), 1, 1) := by kernel_rfl

set_option maxHeartbeats 4000000 in
set_option maxRecDepth 100000 in
theorem modelGlob_any (s : ByteArray) (ao : Option Addr) (m cap : Nat) (z : Nat → Nat) (w : World) (hs : s.size ≤ 1048576) (hm : m ≤ 1048576) (hz : ∀ i, z i < 256) (hc : Bytes w ao m z) :
    Calls Try.prog 13 #[.string s, .slice ao m cap] w fun e w' => e = .returned (.bool (G (bt s) s.size z m 0 0)) ∧ Below w.heap.size w w' := by
  have hb : ∀ k (h : k < s.size), (s[k]'h).toNat = bt s k := bt_eq s
  have HC : Hid (Bytes w ao m z) := hc
  have HZ : Hid (∀ i, z i < 256) := hz
  clear hc hz
  obtain ⟨i4, hi4, hz40, hz41, hz42⟩ := info_parts infoL
  go_enter Try.func13, Try.ntmps13
  go_upto_region 4 with (first
    | (at_make; refine wpList_make_full _ rfl (.tmp 17) (.tmp 17) 33 rfl w.heap.size 4 i4 (.bool false) 1 Try.underlying33 hi4 hz40 hz41 _ _ _ _ (m + 1) rfl rfl (by omega) (by omega) (by rw [hz42]; omega) (by unfold maxLen; omega) (Nat.le_refl _) ?_; intro w1 v1 g1)
    | (at_make; refine wpList_make_full _ rfl (.tmp 20) (.tmp 20) 33 rfl w.heap.size 4 i4 (.bool false) 1 Try.underlying33 hi4 hz40 hz41 _ _ _ _ (m + 1) rfl rfl (by omega) (by omega) (by rw [hz42]; omega) (by unfold maxLen; omega) g1.size ?_; intro w2 v2 g2))
  have two := two_start v1 g1 v2 g2
  clear v1 g1 v2 g2 hi4 hz40 hz41 hz42
  have c0 := two.cellC (j := 0) (by omega)
  have f0 := two.cur.frozen 0
  go_wp2
  have two1 : Two w.heap.size w.heap.size w1.heap.size m (fun j => decide (j = 0)) (fun _ => false) w (w2.setCell ⟨w.heap.size, 0, none⟩ (.bool true)) := (two.setC 0 true).extC (fun v _ => by
    by_cases e : v = 0
    · rw [if_pos e, decide_eq_true e]
    · rw [if_neg e, decide_eq_false e])
  clear two c0 f0
  go_loopw [6, 7, 8] (fun sc sn sq wr => ∃ (gc gn q : Nat) (C X : Nat → Bool), sc = .slice (some ⟨gc, 0, none⟩) (m + 1) (m + 1) ∧ sn = .slice (some ⟨gn, 0, none⟩) (m + 1) (m + 1) ∧ sq = .int .i64 q ∧ q ≤ s.size ∧ Two w.heap.size gc gn m C X w wr ∧ Hid (DP (bt s) s.size z m q C)) (fun _ _ sq _ => s.size - (intOf sq).toNat)
  case atStart => exact ⟨_, _, 0, _, _, rfl, rfl, rfl, Nat.zero_le _, two1, dp_start⟩
  case round =>
    clear two1
    obtain ⟨gc, gn, q, C, X, rfl, rfl, rfl, hq, two, H⟩ := hrel
    by_cases hlt : q < s.size
    · by_cases h42 : bt s q = 42
      · have H' : Hid (DP (bt s) s.size z m (q + 1) (starR C)) := dp_star H.out hlt h42
        clear H
        go_wp2
        go_loopw [9, 10] (fun a x wi => ∃ y : Nat, y ≤ m + 1 ∧ a = .bool (accB C y) ∧ x = .int .i64 y ∧ Two w.heap.size gc gn m C (fun u => if u < y then starR C u else X u) w wi) (fun _ x _ => m + 1 - (intOf x).toNat)
        case atStart => exact ⟨0, by omega, rfl, rfl, two.extN (fun v _ => by rw [if_neg (by omega)])⟩
        case round =>
          clear two
          obtain ⟨y, hy, rfl, rfl, two⟩ := hrel
          by_cases hym : y < m + 1
          · have c1 := two.cellC hym
            have c2 := two.cellN hym
            have f2 := two.nxt.frozen y
            have E0 := accB_succ C y
            cases hacc : accB C y
            · have E : Hid (accB C (y + 1) = C y) := by rw [E0, hacc]; rfl
              clear E0
              go_wp2
              go_roundw
              case rel => exact ⟨y + 1, by omega, by rw [E.out], by go_num, (two.setN y (C y)).extN (fun v _ => by rw [← E.out]; exact star_step)⟩
              case measure => simp [intOf]; omega
            · have E : Hid (accB C (y + 1) = true) := by rw [E0, hacc]; rfl
              clear E0
              go_wp2
              go_roundw
              case rel => exact ⟨y + 1, by omega, by rw [E.out], by go_num, (two.setN y true).extN (fun v _ => by rw [← E.out]; exact star_step)⟩
              case measure => simp [intOf]; omega
          · go_wp2
            go_roundw
            case rel => exact ⟨gn, gc, q + 1, _, _, rfl, rfl, by go_num, by omega, two.swap, dp_ext H'.out (fun u hu => by rw [if_pos (by omega)])⟩
            case measure => simp [intOf]; omega
      · have H' : Hid (DP (bt s) s.size z m (mbN (bt s) s.size q) (elemR (bt s) s.size z q C)) := dp_elem H.out hlt h42
        have g := mbN_bd (bt s) s.size q hlt
        clear H
        have hz := zero27
        go_upto_region 16 with (first
          | (go_at_call 22; refine (modelElem_any _ _ _ (by omega) (by omega)).mono ?_; rintro e w3 ⟨rfl, hb3⟩)
          | (refine store_new _ rfl 27 (.tmp 12) (.tmp 55) rfl _ (tabA (mbB (bt s) s.size q)) rfl rfl (by rw [tabA_size]; exact size27) (by rw [tabA_size, tabA_size]) (tabA_one _) ?_))
        simp only [Act.put]
        have zB := two.low.size
        have two2 := (two.later (by omega) hb3).alloc (by have := hb3.size; omega) (.cells (tabA (mbB (bt s) s.size q)) 27)
        have tb := Blk.new w3 (tabA (mbB (bt s) s.size q)) 27
        have gni : gn ≠ w3.heap.size := by
          have := two.nxt.lt
          have := hb3.size
          omega
        have zB3 : w.heap.size ≤ w3.heap.size := by have := hb3.size; omega
        have c2 := two2.cellN (j := 0) (by omega)
        have f2 := two2.nxt.frozen 0
        clear hz hb3 two zB
        go_wp2
        have two3 : Two w.heap.size gc gn m C (fun u => if u < 0 + 1 then elemR (bt s) s.size z q C u else X u) w ((w3.alloc (.cells (tabA (mbB (bt s) s.size q)) 27)).setCell ⟨gn, 0, none⟩ (.bool false)) := (two2.setN 0 false).extN (fun v _ => by
          by_cases e : v = 0
          · subst e; rfl
          · rw [if_neg e, if_neg (by omega)])
        have tb3 : Blk ((w3.alloc (.cells (tabA (mbB (bt s) s.size q)) 27)).setCell ⟨gn, 0, none⟩ (.bool false)) w3.heap.size (tabA (mbB (bt s) s.size q)) 27 := tb.apart (fun e => gni e.symm) _
        clear two2 tb c2 f2
        go_loopw [13] (fun x wi => ∃ t : Nat, t ≤ m ∧ x = .int .i64 ((t : Int) + 1) ∧ Two w.heap.size gc gn m C (fun u => if u < t + 1 then elemR (bt s) s.size z q C u else X u) w wi ∧ Blk wi w3.heap.size (tabA (mbB (bt s) s.size q)) 27) (fun x _ => m + 1 - (intOf x).toNat)
        case atStart => exact ⟨0, Nat.zero_le _, rfl, two3, tb3⟩
        case round =>
          clear two3 tb3
          obtain ⟨t, htm, rfl, two, tb⟩ := hrel
          by_cases ht : t < m
          · rcases HC.out with h0 | ⟨b, off, rfl, hc⟩
            · omega
            · have c0 := hc t ht
              have hbl := World.block_lt_of_cell? w _ c0
              have c1 := (two.low.cell (p := ⟨b, off + t, none⟩) hbl).trans c0
              have hzt := HZ.out t
              have c3 : _ = some (Value.bool (mbB (bt s) s.size q (z t))) := (tb.cell (z t)).trans (tabA_get _ _ hzt)
              have c4 := two.cellC (j := t) (by omega)
              have c5 := two.cellN (j := t + 1) (by omega)
              have f5 := two.nxt.frozen (t + 1)
              clear hc c0
              cases hC : C t
              · have E : Hid (elemR (bt s) s.size z q C (t + 1) = false) := by unfold elemR; rw [if_neg (by omega), Nat.add_sub_cancel, hC]; rfl
                go_wp2
                go_roundw
                case rel => exact ⟨t + 1, by omega, by go_num, (two.setN (t + 1) false).extN (fun v _ => by rw [← E.out]; exact elem_step), tb.apart (fun e => gni e.symm) _⟩
                case measure => simp [intOf]; omega
              · have E : Hid (elemR (bt s) s.size z q C (t + 1) = mbB (bt s) s.size q (z t)) := by unfold elemR; rw [if_neg (by omega), Nat.add_sub_cancel, hC]; rfl
                go_wp2
                go_roundw
                case rel => exact ⟨t + 1, by omega, by go_num, (two.setN (t + 1) _).extN (fun v _ => by rw [← E.out]; exact elem_step), tb.apart (fun e => gni e.symm) _⟩
                case measure => simp [intOf]; omega
          · go_wp2
            go_roundw
            case rel => exact ⟨gn, gc, mbN (bt s) s.size q, _, _, rfl, rfl, rfl, g.2, two.swap, dp_ext H'.out (fun u hu => by rw [if_pos (by omega)])⟩
            case measure => simp [intOf]; omega
    · have E : Hid (C m = G (bt s) s.size z m 0 0) := dp_end H.out hlt
      have c1 := two.cellC (j := m) (by omega)
      clear H
      go_wp2
      go_ret
      exact ⟨ret_bool E.out, two.low⟩
end Go.Proofs.Qxb6603803a
