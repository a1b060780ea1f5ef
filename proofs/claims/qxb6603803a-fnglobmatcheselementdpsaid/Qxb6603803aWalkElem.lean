/-
  THE WALK of modelElem (22).
-/
import Derived.Test.Qxb6603803aWalkModel
import Derived.Test.Qxb6603803aWalkByte
namespace Go.Proofs.Qxb6603803a
open Go.ChangeShapes Go.WideShapes Go.ChangeAt Go.RowKit
set_option linter.unusedVariables false

/-- The call's own memory: block B (the result), block B + 1 (the table T). -/
structure Own2 (B : Nat) (T : Nat → Bool) (w wr : World) : Prop where
  low : Below B w wr
  res : Blk wr B (tabA fun _ => false) 27
  tab : Blk wr (B + 1) (tabA T) 27

theorem own2_lit (w : World) (T : Nat → Bool) : Own2 w.heap.size T w ((w.alloc (.cells (tabA fun _ => false) 27)).alloc (.cells (tabA T) 27)) := by
  refine ⟨((Below.refl _ _).alloc (Nat.le_refl _) _).alloc (by rw [World.size_alloc]; omega) _, (Blk.new w _ _).alloc _, ?_⟩
  have := Blk.new (w.alloc (.cells (tabA fun _ => false) 27)) (tabA T) 27
  rw [World.size_alloc] at this; exact this
theorem own2_ext {B : Nat} {T T' : Nat → Bool} {w wr : World} (h : Own2 B T w wr) (e : ∀ v, v < 256 → T v = T' v) : Own2 B T' w wr :=
  ⟨h.low, h.res, by rw [← tabA_ext e]; exact h.tab⟩
theorem own2_set {B : Nat} {T : Nat → Bool} {w wr : World} (h : Own2 B T w wr) (j : Nat) (b : Bool) : Own2 B (fun v => if v = j then b else T v) w (wr.setCell ⟨B + 1, j, none⟩ (.bool b)) := by
  refine ⟨h.low.setCell (by simp) _, h.res.apart (by simp) _, ?_⟩
  have := h.tab.set j (.bool b)
  rw [tabA_set] at this; exact this
theorem own2_cell {B : Nat} {T : Nat → Bool} {w wr : World} (h : Own2 B T w wr) {j : Nat} (hj : j < 256) : wr.cell? ⟨B + 1, j, none⟩ = some (.bool (T j)) := by
  rw [h.tab.cell j, tabA_get T j hj]
theorem own2_range {B : Nat} {T : Nat → Bool} {w wr : World} (h : Own2 B T w wr) : wr.rangeAt (B + 1) 0 (tabL T 256) := fun j v hv => by
  rw [h.tab.cell (0 + j), Nat.zero_add]
  unfold tabA; rw [List.getElem?_toArray]; exact hv
theorem own2_there {B : Nat} {T : Nat → Bool} {w wr : World} (h : Own2 B T w wr) : wr.there B 0 256 := fun j hj => by
  rw [h.res.cell (0 + j), Nat.zero_add, tabA_get _ j hj]
  exact ⟨rfl, h.res.frozen j⟩

theorem own2_back {B : Nat} {T : Nat → Bool} {w wr : World} (h : Own2 B T w wr) : (wr.drew.setCells B 0 (tabL T 256)).rangeAt B 0 (tabL T 256) :=
  World.rangeAt_setCells_same wr.drew B 0 (tabL T 256) (by rw [tabL_len]; have := own2_there h; exact this)
theorem own2_low {B : Nat} {T : Nat → Bool} {w wr : World} (h : Own2 B T w wr) : Below B w (wr.drew.setCells B 0 (tabL T 256)) := below_setCells (Nat.le_refl B) (tabL T 256) 0 _ h.low.drew
theorem wrap_in {n : Int} (h1 : 0 ≤ n) (h2 : n ≤ 2000000) : IntKind.i64.wrap n = n := by
  rw [IntWalk.i64_left]; exact IntWalk.wrap64_in n ⟨by omega, by omega⟩

theorem modelSet_succ (s : ByteArray) (p : Nat) (w : World) (hs : s.size ≤ 1048576) (hp : p < s.size) :
    Calls Try.prog 17 #[.string s, .int .i64 ((p : Int) + 1)] w fun e w' => e = .returned (.tuple #[.int .i64 (mdN (bt s) s.size (p + 1)), .agg (tabA (mdT (bt s) s.size (p + 1)))]) ∧ Below w.heap.size w w' := by
  rw [show ((p : Int) + 1) = ((p + 1 : Nat) : Int) by omega]
  exact modelSet_any s (p + 1) w hs hp

theorem blk_range {w : World} {g : Nat} {T : Nat → Bool} (h : Blk w g (tabA T) 27) : w.rangeAt g 0 (tabL T 256) := fun j v hv => by
  rw [h.cell (0 + j), Nat.zero_add]
  unfold tabA; rw [List.getElem?_toArray]; exact hv
theorem elem_res {w w1 : World} (hb1 : Below ((w.alloc (.cells (tabA fun _ => false) 27)).alloc (.cells (tabA fun _ => false) 27)).heap.size ((w.alloc (.cells (tabA fun _ => false) 27)).alloc (.cells (tabA fun _ => false) 27)) w1) :
    Blk w1 w.heap.size (tabA fun _ => false) 27 ∧ Below w.heap.size w w1 :=
  ⟨(own2_lit w _).res.below hb1 (by rw [World.size_alloc, World.size_alloc]; omega), (own2_lit w _).low.trans (hb1.mono (by rw [World.size_alloc, World.size_alloc]; omega))⟩

set_option maxHeartbeats 4000000 in
set_option maxRecDepth 100000 in
theorem modelElem_q (s : ByteArray) (p : Nat) (w : World) (hs : s.size ≤ 1048576) (hp : p < s.size) (h63 : bt s p = 63) :
    Calls Try.prog 22 #[.string s, .int .i64 p] w fun e w' => e = .returned (.tuple #[.int .i64 (mbN (bt s) s.size p), .agg (tabA (mbB (bt s) s.size p))]) ∧ Below w.heap.size w w' := by
  have hb : ∀ k (h : k < s.size), (s[k]'h).toNat = bt s k := bt_eq s
  have hz := zero27
  obtain ⟨e1, e2⟩ := mb_any (n := s.size) h63
  have E1 : Hid (mbN (bt s) s.size p = p + 1) := e1
  have E2 : Hid (∀ c, mbB (bt s) s.size p c = true) := e2
  clear e1 e2
  go_enter Try.func22, Try.ntmps22
  go_wp2
  clear hz
  go_loopw [7] (fun x wi => ∃ y : Nat, y ≤ 256 ∧ x = .int .i64 y ∧ Own2 w.heap.size (fun u => decide (u < y)) w wi) (fun x _ => 256 - (intOf x).toNat)
  case atStart => exact ⟨0, by omega, rfl, own2_ext (own2_lit w _) (fun v _ => by simp)⟩
  case round =>
    obtain ⟨y, hy, rfl, own⟩ := hrel
    by_cases hy2 : y < 256
    · have c2 := own2_cell own hy2
      have f2 := own.tab.frozen y
      go_wp2
      go_roundw
      case rel =>
        refine ⟨y + 1, by omega, by go_num, own2_ext (own2_set own y true) (fun v _ => ?_)⟩
        by_cases e : v = y
        · rw [if_pos e, decide_eq_true (by omega)]
        · rw [if_neg e, decide_eq_decide]; omega
      case measure => simp [intOf]; omega
    · go_upto_region 8 with fail
      have own' : Own2 w.heap.size (mbB (bt s) s.size p) w wr := own2_ext own (fun v hv => by rw [E2.out v]; exact decide_eq_true (by omega))
      have hu27 := Try.underlying27
      have hsz : (Try.prog.info? 27).map (·.size) = some (tabL (mbB (bt s) s.size p) 256).length := by rw [tabL_len]; exact size27
      have hlen := tabL_len (mbB (bt s) s.size p) 256
      have hone := tabL_one (mbB (bt s) s.size p) 256
      have hrange := own2_range own'
      have hthere := own2_there own'
      have hback := own2_back own'
      have hlow := own2_low own'
      refine ret_row5 (t := 27) (B := w.heap.size) (B' := w.heap.size + 1) (cs := tabL (mbB (bt s) s.size p) 256) (v0 := .int .i64 (p : Int)) (va := .int .i64 ((p : Int) + 1)) (v2 := .int .i64 ((p : Int) + 1))
        (by kernel_rfl) (by kernel_rfl) (by kernel_rfl) (by kernel_rfl) (by kernel_rfl) (by kernel_rfl) (by kernel_rfl) (by kernel_rfl) (by kernel_rfl) (by kernel_rfl) (by kernel_rfl) (by kernel_rfl) (fun _ _ _ h => h) (fun _ _ _ h => h) (fun _ _ _ h => h) (fun _ _ _ h => h)
        rfl rfl rfl rfl rfl rfl rfl ?y0 ?ya ?e1 ?y2 ?e3 ?e4 hu27 rfl hsz hone hrange (by rw [hlen]; exact hthere) (by omega) ?fin
      case y0 => intro W; go_simp
      case ya => intro W; go_simp; exact wrap_in (by omega) (by omega)
      case e1 => go_simp
      case y2 => intro W; go_simp
      case e3 => go_simp
      case e4 => go_simp
      case fin =>
        simp only [Act.put, List.setIfInBounds_toArray, List.set_cons_zero, List.set_cons_succ]
        go_wp2
        refine bodyPost_ret (v := .tuple #[.int .i64 ((p : Int) + 1), .agg (tabL (mbB (bt s) s.size p) 256).toArray]) (results_tmp_row Try.results22 _ _ w.heap.size (tabL (mbB (bt s) s.size p) 256) _ _ rfl rfl hback hu27 rfl hsz) rfl ⟨ret_tab ?_ rfl, hlow⟩
        rw [E1.out]; omega

set_option maxHeartbeats 4000000 in
set_option maxRecDepth 100000 in
theorem modelElem_set (s : ByteArray) (p : Nat) (w : World) (hs : s.size ≤ 1048576) (hp : p < s.size) (h91 : bt s p = 91) :
    Calls Try.prog 22 #[.string s, .int .i64 p] w fun e w' => e = .returned (.tuple #[.int .i64 (mbN (bt s) s.size p), .agg (tabA (mbB (bt s) s.size p))]) ∧ Below w.heap.size w w' := by
  have hb : ∀ k (h : k < s.size), (s[k]'h).toNat = bt s k := bt_eq s
  have hz := zero27
  obtain ⟨e1, e2⟩ := mb_set (n := s.size) h91
  have E1 : Hid (mbN (bt s) s.size p = mdN (bt s) s.size (p + 1)) := e1
  have E2 : Hid (∀ c, mbB (bt s) s.size p c = mdT (bt s) s.size (p + 1) c) := e2
  clear e1 e2
  go_enter Try.func22, Try.ntmps22
  go_wp2_with (first
    | (go_at_call 17; refine (modelSet_succ _ _ _ (by omega) (by omega)).mono ?_; rintro e w1 ⟨rfl, hb1⟩; obtain ⟨hB, hlow⟩ := elem_res hb1; clear hb1)
    | (refine wpList_store_row rfl 27 (.tmp 5) (.tmp 29) rfl w.heap.size (tabA (mdT (bt s) s.size (p + 1))) rfl rfl 27 (tabA fun _ => false) hB (by rw [tabA_size]; exact size27) (by rw [tabA_size, tabA_size]) (tabA_one _) ?_))
  have hsz : (Try.prog.info? 27).map (·.size) = some (tabL (mdT (bt s) s.size (p + 1)) 256).length := by rw [tabL_len]; exact size27
  refine bodyPost_ret (v := .tuple #[.int .i64 (mdN (bt s) s.size (p + 1)), .agg (tabL (mdT (bt s) s.size (p + 1)) 256).toArray]) (results_tmp_row Try.results22 _ _ w.heap.size (tabL (mdT (bt s) s.size (p + 1)) 256) _ _ rfl rfl (blk_range (hB.row _)) Try.underlying27 rfl hsz) rfl ⟨ret_tab (by rw [E1.out]) (tabA_ext fun v _ => (E2.out v).symm), below_setRow' hlow (Nat.le_refl _) _⟩

set_option maxHeartbeats 4000000 in
set_option maxRecDepth 100000 in
theorem modelElem_esc (s : ByteArray) (p : Nat) (w : World) (hs : s.size ≤ 1048576) (hp : p < s.size) (h92 : bt s p = 92) (hp1 : p + 1 < s.size) :
    Calls Try.prog 22 #[.string s, .int .i64 p] w fun e w' => e = .returned (.tuple #[.int .i64 (mbN (bt s) s.size p), .agg (tabA (mbB (bt s) s.size p))]) ∧ Below w.heap.size w w' := by
  have hb : ∀ k (h : k < s.size), (s[k]'h).toNat = bt s k := bt_eq s
  have hz := zero27
  obtain ⟨e1, e2⟩ := mb_esc h92 hp1
  have E1 : Hid (mbN (bt s) s.size p = p + 2) := e1
  have E2 : Hid (∀ c, mbB (bt s) s.size p c = decide (bt s (p + 1) = c)) := e2
  have hx := bt_lt s (p + 1)
  have hg := tabA_get (fun _ => false) (bt s (p + 1)) hx
  clear e1 e2
  go_enter Try.func22, Try.ntmps22
  go_upto_region 14 with fail
  clear hz hg
  rw [tabA_set]
  have own' : Own2 w.heap.size (mbB (bt s) s.size p) w ((w.alloc (.cells (tabA fun _ => false) 27)).alloc (.cells (tabA fun v => if v = bt s (p + 1) then true else false) 27)) := own2_ext (own2_lit w _) (fun v _ => by
    rw [E2.out v]
    by_cases e : v = bt s (p + 1)
    · rw [if_pos e, decide_eq_true e.symm]
    · rw [if_neg e, decide_eq_false (fun h => e h.symm)])
  have hu27 := Try.underlying27
  have hsz : (Try.prog.info? 27).map (·.size) = some (tabL (mbB (bt s) s.size p) 256).length := by rw [tabL_len]; exact size27
  have hlen := tabL_len (mbB (bt s) s.size p) 256
  have hone := tabL_one (mbB (bt s) s.size p) 256
  have hrange := own2_range own'
  have hthere := own2_there own'
  have hback := own2_back own'
  have hlow := own2_low own'
  refine ret_row5 (t := 27) (B := w.heap.size) (B' := w.heap.size + 1) (cs := tabL (mbB (bt s) s.size p) 256) (v0 := .int .i64 (p : Int)) (va := .int .i64 ((p : Int) + 2)) (v2 := .int .i64 ((p : Int) + 2))
    (by kernel_rfl) (by kernel_rfl) (by kernel_rfl) (by kernel_rfl) (by kernel_rfl) (by kernel_rfl) (by kernel_rfl) (by kernel_rfl) (by kernel_rfl) (by kernel_rfl) (by kernel_rfl) (by kernel_rfl) (fun _ _ _ h => h) (fun _ _ _ h => h) (fun _ _ _ h => h) (fun _ _ _ h => h)
    rfl rfl rfl rfl rfl rfl rfl ?y0 ?ya ?e1 ?y2 ?e3 ?e4 hu27 rfl hsz hone hrange (by rw [hlen]; exact hthere) (by omega) ?fin
  case y0 => intro W; go_simp
  case ya => intro W; go_simp; exact wrap_in (by omega) (by omega)
  case e1 => go_simp
  case y2 => intro W; go_simp
  case e3 => go_simp
  case e4 => go_simp
  case fin =>
    simp only [Act.put, List.setIfInBounds_toArray, List.set_cons_zero, List.set_cons_succ]
    go_wp2
    refine bodyPost_ret (v := .tuple #[.int .i64 ((p : Int) + 2), .agg (tabL (mbB (bt s) s.size p) 256).toArray]) (results_tmp_row Try.results22 _ _ w.heap.size (tabL (mbB (bt s) s.size p) 256) _ _ rfl rfl hback hu27 rfl hsz) rfl ⟨ret_tab ?_ rfl, hlow⟩
    rw [E1.out]; omega

set_option maxHeartbeats 4000000 in
set_option maxRecDepth 100000 in
theorem modelElem_lit (s : ByteArray) (p : Nat) (w : World) (hs : s.size ≤ 1048576) (hp : p < s.size) (h63 : ¬ bt s p = 63) (h91 : ¬ bt s p = 91) (h92 : ¬ bt s p = 92) :
    Calls Try.prog 22 #[.string s, .int .i64 p] w fun e w' => e = .returned (.tuple #[.int .i64 (mbN (bt s) s.size p), .agg (tabA (mbB (bt s) s.size p))]) ∧ Below w.heap.size w w' := by
  have hb : ∀ k (h : k < s.size), (s[k]'h).toNat = bt s k := bt_eq s
  have hz := zero27
  obtain ⟨e1, e2⟩ := mb_lit (n := s.size) h63 h91 (by omega)
  have E1 : Hid (mbN (bt s) s.size p = p + 1) := e1
  have E2 : Hid (∀ c, mbB (bt s) s.size p c = decide (bt s p = c)) := e2
  have hx := bt_lt s p
  have hg := tabA_get (fun _ => false) (bt s p) hx
  clear e1 e2
  go_enter Try.func22, Try.ntmps22
  go_upto_region 16 with fail
  clear hz hg
  rw [tabA_set]
  have own' : Own2 w.heap.size (mbB (bt s) s.size p) w ((w.alloc (.cells (tabA fun _ => false) 27)).alloc (.cells (tabA fun v => if v = bt s p then true else false) 27)) := own2_ext (own2_lit w _) (fun v _ => by
    rw [E2.out v]
    by_cases e : v = bt s p
    · rw [if_pos e, decide_eq_true e.symm]
    · rw [if_neg e, decide_eq_false (fun h => e h.symm)])
  have hu27 := Try.underlying27
  have hsz : (Try.prog.info? 27).map (·.size) = some (tabL (mbB (bt s) s.size p) 256).length := by rw [tabL_len]; exact size27
  have hlen := tabL_len (mbB (bt s) s.size p) 256
  have hone := tabL_one (mbB (bt s) s.size p) 256
  have hrange := own2_range own'
  have hthere := own2_there own'
  have hback := own2_back own'
  have hlow := own2_low own'
  refine ret_row5 (t := 27) (B := w.heap.size) (B' := w.heap.size + 1) (cs := tabL (mbB (bt s) s.size p) 256) (v0 := .int .i64 (p : Int)) (va := .int .i64 ((p : Int) + 1)) (v2 := .int .i64 ((p : Int) + 1))
    (by kernel_rfl) (by kernel_rfl) (by kernel_rfl) (by kernel_rfl) (by kernel_rfl) (by kernel_rfl) (by kernel_rfl) (by kernel_rfl) (by kernel_rfl) (by kernel_rfl) (by kernel_rfl) (by kernel_rfl) (fun _ _ _ h => h) (fun _ _ _ h => h) (fun _ _ _ h => h) (fun _ _ _ h => h)
    rfl rfl rfl rfl rfl rfl rfl ?y0 ?ya ?e1 ?y2 ?e3 ?e4 hu27 rfl hsz hone hrange (by rw [hlen]; exact hthere) (by omega) ?fin
  case y0 => intro W; go_simp
  case ya => intro W; go_simp; exact wrap_in (by omega) (by omega)
  case e1 => go_simp
  case y2 => intro W; go_simp
  case e3 => go_simp
  case e4 => go_simp
  case fin =>
    simp only [Act.put, List.setIfInBounds_toArray, List.set_cons_zero, List.set_cons_succ]
    go_wp2
    refine bodyPost_ret (v := .tuple #[.int .i64 ((p : Int) + 1), .agg (tabL (mbB (bt s) s.size p) 256).toArray]) (results_tmp_row Try.results22 _ _ w.heap.size (tabL (mbB (bt s) s.size p) 256) _ _ rfl rfl hback hu27 rfl hsz) rfl ⟨ret_tab ?_ rfl, hlow⟩
    rw [E1.out]; omega

set_option maxHeartbeats 4000000 in
set_option maxRecDepth 100000 in
theorem modelElem_last (s : ByteArray) (p : Nat) (w : World) (hs : s.size ≤ 1048576) (hp : p < s.size) (h92 : bt s p = 92) (hp1 : ¬ p + 1 < s.size) :
    Calls Try.prog 22 #[.string s, .int .i64 p] w fun e w' => e = .returned (.tuple #[.int .i64 (mbN (bt s) s.size p), .agg (tabA (mbB (bt s) s.size p))]) ∧ Below w.heap.size w w' := by
  have hb : ∀ k (h : k < s.size), (s[k]'h).toNat = bt s k := bt_eq s
  have hz := zero27
  obtain ⟨e1, e2⟩ := mb_lit (f := bt s) (n := s.size) (p := p) (by omega) (by omega) (by omega)
  have E1 : Hid (mbN (bt s) s.size p = p + 1) := e1
  have E2 : Hid (∀ c, mbB (bt s) s.size p c = decide (92 = c)) := by rw [← h92]; exact e2
  have hg := tabA_get (fun _ => false) 92 (by omega)
  clear e1 e2
  go_enter Try.func22, Try.ntmps22
  go_upto_region 16 with fail
  clear hz hg
  rw [tabA_set]
  have own' : Own2 w.heap.size (mbB (bt s) s.size p) w ((w.alloc (.cells (tabA fun _ => false) 27)).alloc (.cells (tabA fun v => if v = 92 then true else false) 27)) := own2_ext (own2_lit w _) (fun v _ => by
    rw [E2.out v]
    by_cases e : v = 92
    · rw [if_pos e, decide_eq_true e.symm]
    · rw [if_neg e, decide_eq_false (fun h => e h.symm)])
  have hu27 := Try.underlying27
  have hsz : (Try.prog.info? 27).map (·.size) = some (tabL (mbB (bt s) s.size p) 256).length := by rw [tabL_len]; exact size27
  have hlen := tabL_len (mbB (bt s) s.size p) 256
  have hone := tabL_one (mbB (bt s) s.size p) 256
  have hrange := own2_range own'
  have hthere := own2_there own'
  have hback := own2_back own'
  have hlow := own2_low own'
  refine ret_row5 (t := 27) (B := w.heap.size) (B' := w.heap.size + 1) (cs := tabL (mbB (bt s) s.size p) 256) (v0 := .int .i64 (p : Int)) (va := .int .i64 ((p : Int) + 1)) (v2 := .int .i64 ((p : Int) + 1))
    (by kernel_rfl) (by kernel_rfl) (by kernel_rfl) (by kernel_rfl) (by kernel_rfl) (by kernel_rfl) (by kernel_rfl) (by kernel_rfl) (by kernel_rfl) (by kernel_rfl) (by kernel_rfl) (by kernel_rfl) (fun _ _ _ h => h) (fun _ _ _ h => h) (fun _ _ _ h => h) (fun _ _ _ h => h)
    rfl rfl rfl rfl rfl rfl rfl ?y0 ?ya ?e1 ?y2 ?e3 ?e4 hu27 rfl hsz hone hrange (by rw [hlen]; exact hthere) (by omega) ?fin
  case y0 => intro W; go_simp
  case ya => intro W; go_simp; exact wrap_in (by omega) (by omega)
  case e1 => go_simp
  case y2 => intro W; go_simp
  case e3 => go_simp
  case e4 => go_simp
  case fin =>
    simp only [Act.put, List.setIfInBounds_toArray, List.set_cons_zero, List.set_cons_succ]
    go_wp2
    refine bodyPost_ret (v := .tuple #[.int .i64 ((p : Int) + 1), .agg (tabL (mbB (bt s) s.size p) 256).toArray]) (results_tmp_row Try.results22 _ _ w.heap.size (tabL (mbB (bt s) s.size p) 256) _ _ rfl rfl hback hu27 rfl hsz) rfl ⟨ret_tab ?_ rfl, hlow⟩
    rw [E1.out]; omega

theorem modelElem_any (s : ByteArray) (p : Nat) (w : World) (hs : s.size ≤ 1048576) (hp : p < s.size) :
    Calls Try.prog 22 #[.string s, .int .i64 p] w fun e w' => e = .returned (.tuple #[.int .i64 (mbN (bt s) s.size p), .agg (tabA (mbB (bt s) s.size p))]) ∧ Below w.heap.size w w' := by
  by_cases h63 : bt s p = 63
  · exact modelElem_q s p w hs hp h63
  · by_cases h91 : bt s p = 91
    · exact modelElem_set s p w hs hp h91
    · by_cases h92 : bt s p = 92
      · by_cases hp1 : p + 1 < s.size
        · exact modelElem_esc s p w hs hp h92 hp1
        · exact modelElem_last s p w hs hp h92 hp1
      · exact modelElem_lit s p w hs hp h63 h91 h92
end Go.Proofs.Qxb6603803a
