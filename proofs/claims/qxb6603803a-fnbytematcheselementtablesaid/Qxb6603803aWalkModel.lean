/-
  THE WALK of modelSet (17).
-/
import Derived.Test.Qxb6603803aWalkEnd
import Derived.Test.Qxb6603803aMem
import Derived.RegionTactic
import Derived.Laws.ResultCell
import Derived.Deep.DeepCutAuto
import Derived.Maps.AppendAt
import Derived.Test.Qxb6603803aRegion
namespace Go.Proofs.Qxb6603803a
open Go.ChangeShapes Go.WideShapes Go.ChangeAt Go.RowKit
set_option linter.unusedVariables false

theorem info27 : (Try.prog.info? 27).map (fun i => (i.zero, i.size)) = some (some (.agg (Array.replicate 256 (.bool false))), 256) := by kernel_rfl
theorem zero27 (w : World) : (zeroValue 27).run Try.prog w = .ok (.agg (tabA fun _ => false)) w := by
  rw [← tabA_zero]; exact (zero_of_info info27).1 w
theorem size27 : (Try.prog.info? 27).map (·.size) = some 256 := (zero_of_info info27).2
theorem info5 : (Try.prog.info? 5).map (fun i => (i.zero, i.size, i.bytes)) = some (some (.int .u8 0), 1, 1) := by kernel_rfl
theorem info4 : (Try.prog.info? 4).map (fun i => (i.zero, i.size, i.bytes)) = some (some (.bool false), 1, 1) := by kernel_rfl

/-- 'append(xs, u)' within the capacity, xs the call's own: u lies in the block that was made last. -/
theorem app1 {P : Program} {ops : Array Oper} {rest : List Oper} {o : Oper} {a : Act} {Q : Exit → Act → World → Prop} (W : World)
    (hg : o.guard = none) (s x : Operand) (t : TypeId) (hop : o.op = Op.call { callee := Callee.builtin Builtin.append, args := #[s, x], argTypes := #[t, t] })
    (base : Nat) (e : TypeId) (i : TypeInfo) (h1 : P.underlying t = some (.slice e)) (h2 : P.info? e = some i) (h4 : i.size = 1)
    (g k cap : Nat) (xs : List Value) (u : Value) (hs : a.eval s = .slice (some ⟨g, 0, none⟩) k cap) (hx : a.eval x = .slice (some ⟨W.heap.size, 0, none⟩) 1 1)
    (hown : W.ownsRow base e 1 (.slice (some ⟨g, 0, none⟩) k cap) k xs) (hu : u.oneCell' = true) (hb : k + 1 ≤ cap)
    (hK : ∀ w', w'.ownsRow base e 1 (.slice (some ⟨g, 0, none⟩) (k + 1) cap) (k + 1) (xs ++ [u]) → (W.alloc (.cells #[u] e)).grownBy w' (some g) → wpList P ops Q rest (a.put o.dst (.slice (some ⟨g, 0, none⟩) (k + 1) cap)) w') :
    wpList P ops Q (o :: rest) a (W.alloc (.cells #[u] e)) :=
  wpList_append_fits _ hg s x t hop base e i 1 h1 h2 h4 g k cap xs hs (hown.alloc _) ⟨W.heap.size, 0, none⟩ 1 1 [u] hx rfl (cell_one_new _ _ _) (by intro v hv; simp at hv; subst hv; exact hu) hb hK

theorem int_eq_dec (a b : Nat) : ((a : Int) == (b : Int)) = decide (a = b) := by
  by_cases h : a = b
  · subst h; simp
  · rw [decide_eq_false h]; simp; omega

/-- The call's own memory: block B (the result), block B + 1 (the table T), the two lists of units in blocks B + 2 and gd. -/
structure Own (B gd cap : Nat) (T : Nat → Bool) (us : List (Nat × Bool)) (w wr : World) : Prop where
  low : Below B w wr
  big : B + 2 < gd
  res : Blk wr B (tabA fun _ => false) 27
  tab : Blk wr (B + 1) (tabA T) 27
  vals : wr.ownsRow (B + 2) 5 1 (.slice (some ⟨B + 2, 0, none⟩) us.length cap) us.length (us.map fun u => .int .u8 u.1)
  dash : wr.ownsRow (B + 2) 4 1 (.slice (some ⟨gd, 0, none⟩) us.length cap) us.length (us.map fun u => .bool u.2)

/-- The start: two tables of zeros, then two makes. -/
theorem own_start {w w1 w2 : World} {cap : Nat} (v1 : w1.ownsRow (w.heap.size + 2) 5 1 (.slice (some ⟨w.heap.size + 2, 0, none⟩) 0 cap) 0 [])
    (g1 : ((w.alloc (.cells (tabA fun _ => false) 27)).alloc (.cells (tabA fun _ => false) 27)).grownBy w1 none)
    (v2 : w2.ownsRow (w.heap.size + 2) 4 1 (.slice (some ⟨w1.heap.size, 0, none⟩) 0 cap) 0 []) (g2 : w1.grownBy w2 none) :
    Own w.heap.size w1.heap.size cap (fun _ => false) [] w w2 := by
  have hlt := (v1.lt (w.heap.size + 2) rfl).2
  have a1 : Blk ((w.alloc (.cells (tabA fun _ => false) 27)).alloc (.cells (tabA fun _ => false) 27)) w.heap.size (tabA fun _ => false) 27 := (Blk.new w _ _).alloc _
  have a2 : Blk ((w.alloc (.cells (tabA fun _ => false) 27)).alloc (.cells (tabA fun _ => false) 27)) (w.heap.size + 1) (tabA fun _ => false) 27 := by
    have := Blk.new (w.alloc (.cells (tabA fun _ => false) 27)) (tabA fun _ => false) 27
    rw [World.size_alloc] at this; exact this
  refine ⟨?_, hlt, (a1.grown g1 (fun h => by cases h)).grown g2 (fun h => by cases h), (a2.grown g1 (fun h => by cases h)).grown g2 (fun h => by cases h), v1.kept g2 (.inr (fun h => by cases h)), v2⟩
  have b0 : Below w.heap.size w ((w.alloc (.cells (tabA fun _ => false) 27)).alloc (.cells (tabA fun _ => false) 27)) := ((Below.refl _ _).alloc (Nat.le_refl _) _).alloc (by rw [World.size_alloc]; omega) _
  exact (b0.grown g1 (by rw [World.size_alloc, World.size_alloc]; omega) (fun _ h => by cases h)).grown g2 (by omega) (fun _ h => by cases h)

theorem own_mid {B gd cap : Nat} {T : Nat → Bool} {us : List (Nat × Bool)} {w wr w1 : World} {o : Obj} (h : Own B gd cap T us w wr) (g1 : (wr.alloc o).grownBy w1 (some (B + 2))) :
    w1.ownsRow (B + 2) 4 1 (.slice (some ⟨gd, 0, none⟩) us.length cap) us.length (us.map fun u => .bool u.2) := by
  have := h.big
  exact (h.dash.alloc o).kept g1 (.inr (by simp [Value.ownBlock]; omega))

theorem own_end {B gd cap : Nat} {T : Nat → Bool} {us : List (Nat × Bool)} {w wr w1 w2 : World} {o o' : Obj} {x : Nat} {d : Bool} (h : Own B gd cap T us w wr)
    (v1 : w1.ownsRow (B + 2) 5 1 (.slice (some ⟨B + 2, 0, none⟩) (us.length + 1) cap) (us.length + 1) ((us.map fun u => .int .u8 u.1) ++ [.int .u8 x])) (g1 : (wr.alloc o).grownBy w1 (some (B + 2)))
    (v2 : w2.ownsRow (B + 2) 4 1 (.slice (some ⟨gd, 0, none⟩) (us.length + 1) cap) (us.length + 1) ((us.map fun u => .bool u.2) ++ [.bool d])) (g2 : (w1.alloc o').grownBy w2 (some gd)) :
    Own B gd cap T (us ++ [(x, d)]) w w2 := by
  have hb := h.big
  have hz := h.low.size
  have z1 := g1.size
  have z2 := h.tab.lt
  rw [World.size_alloc] at z1
  refine ⟨?_, hb, ?_, ?_, ?_, ?_⟩
  · exact (((h.low.alloc (by omega) o).grown g1 (by rw [World.size_alloc]; omega) (by intro k hk; injection hk with hk; omega)).alloc (by omega) o').grown g2 (by rw [World.size_alloc]; omega) (by intro k hk; injection hk with hk; omega)
  · exact (((h.res.alloc o).grown g1 (by simp)).alloc o').grown g2 (by simp; omega)
  · exact (((h.tab.alloc o).grown g1 (by simp)).alloc o').grown g2 (by simp; omega)
  · have := (v1.alloc o').kept g2 (.inr (by simp [Value.ownBlock]; omega))
    simpa using this
  · simpa using v2

theorem own_val {B gd cap : Nat} {T : Nat → Bool} {us : List (Nat × Bool)} {w wr : World} (h : Own B gd cap T us w wr) {j : Nat} (hj : j < us.length) : wr.cell? ⟨B + 2, j, none⟩ = some (.int .u8 (vl us j)) := by
  rw [h.vals.cellAt j (by omega), List.getElem?_map, List.getElem?_eq_getElem hj]
  unfold vl
  rw [List.getD_eq_getElem?_getD, List.getElem?_eq_getElem hj]; rfl
theorem own_dash {B gd cap : Nat} {T : Nat → Bool} {us : List (Nat × Bool)} {w wr : World} (h : Own B gd cap T us w wr) {j : Nat} (hj : j < us.length) : wr.cell? ⟨gd, j, none⟩ = some (.bool (ds us j)) := by
  rw [h.dash.cellAt j (by omega), List.getElem?_map, List.getElem?_eq_getElem hj]
  unfold ds
  rw [List.getD_eq_getElem?_getD, List.getElem?_eq_getElem hj]; rfl

theorem own_ext {B gd cap : Nat} {T T' : Nat → Bool} {us : List (Nat × Bool)} {w wr : World} (h : Own B gd cap T us w wr) (e : ∀ v, v < 256 → T v = T' v) : Own B gd cap T' us w wr :=
  ⟨h.low, h.big, h.res, by rw [← tabA_ext e]; exact h.tab, h.vals, h.dash⟩
theorem own_cell {B gd cap : Nat} {T : Nat → Bool} {us : List (Nat × Bool)} {w wr : World} (h : Own B gd cap T us w wr) {j : Nat} (hj : j < 256) : wr.cell? ⟨B + 1, j, none⟩ = some (.bool (T j)) := by
  rw [h.tab.cell j, tabA_get T j hj]
theorem own_set {B gd cap : Nat} {T : Nat → Bool} {us : List (Nat × Bool)} {w wr : World} (h : Own B gd cap T us w wr) (j : Nat) (b : Bool) : Own B gd cap (fun v => if v = j then b else T v) us w (wr.setCell ⟨B + 1, j, none⟩ (.bool b)) := by
  have hb := h.big
  refine ⟨h.low.setCell (by simp) _, hb, h.res.apart (by simp) _, ?_, ownsRow_setCell_below h.vals (by simp) _, ownsRow_setCell_below h.dash (by simp) _⟩
  have := h.tab.set j (.bool b)
  rw [tabA_set] at this; exact this
theorem own_range {B gd cap : Nat} {T : Nat → Bool} {us : List (Nat × Bool)} {w wr : World} (h : Own B gd cap T us w wr) : wr.rangeAt (B + 1) 0 (tabL T 256) := fun j v hv => by
  rw [h.tab.cell (0 + j), Nat.zero_add]
  unfold tabA; rw [List.getElem?_toArray]; exact hv
theorem own_there {B gd cap : Nat} {T : Nat → Bool} {us : List (Nat × Bool)} {w wr : World} (h : Own B gd cap T us w wr) : wr.there B 0 256 := fun j hj => by
  rw [h.res.cell (0 + j), Nat.zero_add, tabA_get _ j hj]
  exact ⟨rfl, h.res.frozen j⟩
theorem below_setCells {B b : Nat} (hb : B ≤ b) {a : World} : ∀ (vs : List Value) (o : Nat) (w : World), Below B a w → Below B a (w.setCells b o vs)
  | [], _, _, h => h
  | _ :: r, o, _, h => by rw [World.setCells]; exact below_setCells hb r (o + 1) _ (h.setCell hb _)
theorem md_end {f : Nat → Nat} {n p q : Nat} {us : List (Nat × Bool)} {Tf : Nat → Bool} (hq : q = st0 f n p) (hu : us = un f n q) (hF : ∀ v, v < 256 → Tf v = (mem us v != neg f n p)) : (tabL Tf 256).toArray = tabA (mdT f n p) := by
  subst hu hq; exact tabA_ext hF
theorem ret_tab {a b : Int} {A A' : Array Value} (h1 : a = b) (h2 : A = A') : Ending.returned (.tuple #[.int .i64 a, .agg A]) = .returned (.tuple #[.int .i64 b, .agg A']) := by rw [h1, h2]
theorem rng_swap {a b : Nat} (h : b < a) (v : Nat) : rng a b v = decide (b ≤ v ∧ v ≤ a) := by unfold rng; rw [decide_eq_decide]; omega
theorem rng_keep {a b : Nat} (h : ¬ b < a) (v : Nat) : rng a b v = decide (a ≤ v ∧ v ≤ b) := by unfold rng; rw [decide_eq_decide]; omega
theorem tab_more {T : Nat → Bool} {lo y v : Nat} (hy : lo ≤ y) : (if v = y then true else T v || decide (lo ≤ v ∧ v < y)) = (T v || decide (lo ≤ v ∧ v < y + 1)) := by
  by_cases e : v = y
  · subst e; rw [if_pos rfl, decide_eq_true (by omega)]; simp
  · rw [if_neg e]; congr 1; rw [decide_eq_decide]; omega
theorem tab_flip {T : Nat → Bool} {y v : Nat} : (if v = y then !T y else if v < y then !T v else T v) = (if v < y + 1 then !T v else T v) := by
  by_cases e : v = y
  · subst e; rw [if_pos rfl, if_pos (by omega)]
  · rw [if_neg e]
    by_cases h : v < y
    · rw [if_pos h, if_pos (by omega)]
    · rw [if_neg h, if_neg (by omega)]
theorem tab_join {T : Nat → Bool} {us : List (Nat × Bool)} {m m' a b v lo hh y : Nat} (h1 : (T v || mem (us.drop m) v) = mem us v) (h2 : mem (us.drop m) v = (rng a b v || mem (us.drop m') v)) (h3 : rng a b v = decide (lo ≤ v ∧ v ≤ hh)) (hy : y = hh + 1) :
    ((T v || decide (lo ≤ v ∧ v < y)) || mem (us.drop m') v) = mem us v := by
  rw [← h1, h2, h3, hy, Bool.or_assoc]
  congr 2
  rw [decide_eq_decide]; omega

set_option maxHeartbeats 4000000 in
set_option maxRecDepth 100000 in
theorem modelSet_any (s : ByteArray) (p : Nat) (w : World) (hs : s.size ≤ 1048576) (hp : p ≤ s.size) :
    Calls Try.prog 17 #[.string s, .int .i64 p] w fun e w' => e = .returned (.tuple #[.int .i64 (mdN (bt s) s.size p), .agg (tabA (mdT (bt s) s.size p))]) ∧ Below w.heap.size w w' := by
  have hb : ∀ k (h : k < s.size), (s[k]'h).toNat = bt s k := bt_eq s
  have hz := zero27
  go_enter Try.func17, Try.ntmps17
  go_upto_region 4 with fail
  clear hz
  go_cut [30] (fun ng wc => ng = .bool (neg (bt s) s.size p) ∧ wc = (w.alloc (.cells (tabA fun _ => false) 27)).alloc (.cells (tabA fun _ => false) 27))
  case first =>
    by_cases h1 : p < s.size
    · by_cases h2 : bt s p = 94
      · go_wp2
        go_meet
        case rel => exact ⟨by rw [neg_yes h1 h2], rfl⟩
      · go_wp2
        go_meet
        case rel => exact ⟨by rw [neg_no (by omega)]; congr 1; simp; omega, rfl⟩
    · go_wp2
      go_meet
      case rel => exact ⟨by rw [neg_no (by omega)], rfl⟩
  case rest =>
    obtain ⟨rfl, rfl⟩ := hcut
    go_upto_if 30 with fail
    go_cut [7, 8] (fun ng st wc => ng = .bool (neg (bt s) s.size p) ∧ (∃ q : Nat, st = .int .i64 q ∧ q ≤ s.size ∧ Hid (q = st0 (bt s) s.size p)) ∧ wc = (w.alloc (.cells (tabA fun _ => false) 27)).alloc (.cells (tabA fun _ => false) 27))
    case first =>
      have hq := st0_le (bt s) s.size p hp
      cases hn : neg (bt s) s.size p
      · have E := st0_no hn
        go_wp2
        go_meet
        case rel => exact ⟨by rw [hn], ⟨p, rfl, hp, E.symm⟩, rfl⟩
      · have E := st0_yes hn
        go_wp2
        go_meet
        case rel => exact ⟨by rw [hn], ⟨p + 1, by go_num, by omega, E.symm⟩, rfl⟩
    case rest =>
      obtain ⟨rfl, ⟨q, rfl, hq, HQ⟩, rfl⟩ := hcut
      go_upto_region 8 with (go_at_call 26; refine (modelSetEnd_any _ _ _ (by omega) (by omega)).mono ?_; rintro e w' ⟨rfl, rfl⟩)
      have ge := en_bd (bt s) s.size q hq
      obtain ⟨i5, hi5, hz50, hz51, hz52⟩ := info_parts info5
      obtain ⟨i4, hi4, hz40, hz41, hz42⟩ := info_parts info4
      go_wp2_with (first
        | (at_make; refine wpList_make_own _ rfl _ _ 22 rfl (w.heap.size + 2) 5 i5 (.int .u8 0) 1 Try.underlying22 hi5 hz50 hz51 _ _ _ (en (bt s) s.size q - q) rfl rfl (by omega) (by rw [hz52]; omega) (by unfold maxLen; omega) (by simp) ?_; intro w1 v1 g1)
        | (at_make; refine wpList_make_own _ rfl _ _ 33 rfl (w.heap.size + 2) 4 i4 (.bool false) 1 Try.underlying33 hi4 hz40 hz41 _ _ _ (en (bt s) s.size q - q) rfl rfl (by omega) (by rw [hz42]; omega) (by unfold maxLen; omega) (by have := (v1.lt _ rfl).2; simp at this; omega) ?_; intro w2 v2 g2))
      simp only [World.size_alloc] at v1
      have own0 := own_start v1 g1 v2 g2
      clear v1 g1 v2 g2
      go_loopw [10, 11, 12] (fun v d i wr => ∃ k : Nat, ∃ us : List (Nat × Bool), q ≤ k ∧ k ≤ en (bt s) s.size q ∧ us.length + q ≤ k ∧ i = .int .i64 k ∧ v = .slice (some ⟨w.heap.size + 2, 0, none⟩) us.length (en (bt s) s.size q - q) ∧ d = .slice (some ⟨w1.heap.size, 0, none⟩) us.length (en (bt s) s.size q - q) ∧
          Own w.heap.size w1.heap.size (en (bt s) s.size q - q) (fun _ => false) us w wr ∧ Hid (us ++ un (bt s) s.size k = un (bt s) s.size q ∧ en (bt s) s.size k = en (bt s) s.size q)) (fun _ _ i _ => s.size - (intOf i).toNat)
      case atStart => exact ⟨q, [], Nat.le_refl _, ge.1, by simp, rfl, rfl, rfl, own0, ⟨rfl, rfl⟩⟩
      case round =>
        obtain ⟨k, us, hqk, hke, hul, rfl, rfl, rfl, own, H⟩ := hrel
        by_cases hlt : k < en (bt s) s.size q
        · have hn := en_lt H.out.2 hlt
          have hk1 := hn.1
          have HE : Hid (us ++ [(sbB (bt s) s.size k, decide (bt s k = 45))] ++ un (bt s) s.size (sbN (bt s) s.size k) = un (bt s) s.size q ∧ en (bt s) s.size (sbN (bt s) s.size k) = en (bt s) s.size q) :=
            ⟨by rw [← H.out.1, un_step hn, List.append_assoc]; rfl, by rw [← H.out.2]; exact (en_step hn).symm⟩
          have hle := en_next_le H.out.2 hlt
          have hgt := sbN_gt (bt s) s.size k
          clear H hn
          by_cases h92 : bt s k = 92
          · by_cases hk2 : k + 1 < s.size
            · have eB : Hid (sbB (bt s) s.size k = bt s (k + 1)) := by unfold sbB; rw [if_pos ⟨h92, hk2⟩]; rfl
              have eN : Hid (sbN (bt s) s.size k = k + 2) := by unfold sbN; rw [if_pos ⟨h92, hk2⟩]; rfl
              go_wp2_with (first
                | (at_builtin; refine app1 _ rfl (.tmp 59) (.tmp 64) 22 rfl (w.heap.size + 2) 5 i5 Try.underlying22 hi5 hz51 (w.heap.size + 2) us.length _ _ _ rfl rfl own.vals rfl (by omega) ?_; intro w3 v3 g3; have d3 := own_mid own g3)
                | (at_builtin; refine app1 _ rfl (.tmp 66) (.tmp 67) 33 rfl (w.heap.size + 2) 4 i4 Try.underlying33 hi4 hz41 w1.heap.size us.length _ _ _ rfl rfl d3 rfl (by omega) ?_; intro w4 v4 g4))
              go_roundw
              case rel =>
                have h := own_end own v3 g3 v4 g4
                have HE' := HE.out
                rw [eB.out, eN.out, show decide (bt s k = 45) = false from decide_eq_false (by omega)] at HE'
                exact ⟨k + 2, us ++ [(bt s (k + 1), false)], by omega, by have := eN.out; omega, by simp; omega, by go_num, by simp, by simp, h, HE'⟩
              case measure => simp [intOf]; omega
            · have eB : Hid (sbB (bt s) s.size k = bt s k) := by unfold sbB; rw [if_neg (by omega)]; rfl
              have eN : Hid (sbN (bt s) s.size k = k + 1) := by unfold sbN; rw [if_neg (by omega)]; rfl
              go_wp2_with (first
                | (at_builtin; refine app1 _ rfl (.tmp 71) (.tmp 75) 22 rfl (w.heap.size + 2) 5 i5 Try.underlying22 hi5 hz51 (w.heap.size + 2) us.length _ _ _ rfl rfl own.vals rfl (by omega) ?_; intro w3 v3 g3; have d3 := own_mid own g3)
                | (at_builtin; refine app1 _ rfl (.tmp 77) (.tmp 82) 33 rfl (w.heap.size + 2) 4 i4 Try.underlying33 hi4 hz41 w1.heap.size us.length _ _ _ rfl rfl d3 rfl (by omega) ?_; intro w4 v4 g4))
              go_roundw
              case rel =>
                have h := own_end own v3 g3 v4 g4
                have HE' := HE.out
                rw [eB.out, eN.out] at HE'
                refine ⟨k + 1, us ++ [(bt s k, decide (bt s k = 45))], by omega, by have := eN.out; omega, by simp; omega, by go_num, by simp, by simp, ?_, HE'⟩
                rw [show (bt s k, decide (bt s k = 45)) = (92, false) by rw [h92]; rfl]
                exact h
              case measure => simp [intOf]; omega
          · have eB : Hid (sbB (bt s) s.size k = bt s k) := by unfold sbB; rw [if_neg (by omega)]; rfl
            have eN : Hid (sbN (bt s) s.size k = k + 1) := by unfold sbN; rw [if_neg (by omega)]; rfl
            go_wp2_with (first
              | (at_builtin; refine app1 _ rfl (.tmp 71) (.tmp 75) 22 rfl (w.heap.size + 2) 5 i5 Try.underlying22 hi5 hz51 (w.heap.size + 2) us.length _ _ _ rfl rfl own.vals rfl (by omega) ?_; intro w3 v3 g3; have d3 := own_mid own g3)
              | (at_builtin; refine app1 _ rfl (.tmp 77) (.tmp 82) 33 rfl (w.heap.size + 2) 4 i4 Try.underlying33 hi4 hz41 w1.heap.size us.length _ _ _ rfl rfl d3 rfl (by omega) ?_; intro w4 v4 g4))
            go_roundw
            case rel =>
              have h := own_end own v3 g3 v4 g4
              have HE' := HE.out
              rw [eB.out, eN.out] at HE'
              refine ⟨k + 1, us ++ [(bt s k, decide (bt s k = 45))], by omega, by have := eN.out; omega, by simp; omega, by go_num, by simp, by simp, ?_, HE'⟩
              rw [← int_eq_dec]
              exact h
            case measure => simp [intOf]; omega
        · have hun := un_end H.out.2 hlt
          have HU : Hid (us = un (bt s) s.size q) := by rw [← H.out.1, hun, List.append_nil]; rfl
          have hus : ∀ j, vl us j < 256 := by rw [HU.out]; exact vl_lt (bt_lt s) _ _
          clear hun H
          go_wp2
          have own1 := own
          clear own
          go_loopw [13] (fun j wr => ∃ m : Nat, ∃ T : Nat → Bool, m ≤ us.length ∧ j = .int .i64 m ∧ Own w.heap.size w1.heap.size (en (bt s) s.size q - q) T us w wr ∧ Hid (∀ v, (T v || mem (us.drop m) v) = mem us v)) (fun j _ => us.length - (intOf j).toNat)
          case atStart => exact ⟨0, _, Nat.zero_le _, rfl, own1, fun v => by simp⟩
          case round =>
            clear own1
            obtain ⟨m, T, hm, rfl, own, H⟩ := hrel
            by_cases hml : m < us.length
            · have c1 := own_val own hml
              have b1 := hus m
              go_upto_region 24 with fail
              go_cut [107] (fun t wc => t = .bool (rB us m) ∧ wr = wc)
              case first =>
                by_cases h2 : m + 2 < us.length
                · have c2 := own_dash own (j := m + 1) (by omega)
                  have E : Hid (rB us m = ds us (m + 1)) := rB_lt h2
                  clear hus H
                  go_wp2
                  go_meet
                  case rel => exact ⟨by rw [E.out], rfl⟩
                · have E : Hid (rB us m = false) := rB_ge h2
                  clear hus H
                  go_wp2
                  go_meet
                  case rel => exact ⟨by rw [E.out], rfl⟩
              case rest =>
                obtain ⟨rfl, rfl⟩ := hcut
                go_upto_if 107 with fail
                go_cut [15, 16] (fun h st wc => ∃ hi stp : Nat, h = .int .i64 hi ∧ st = .int .i64 stp ∧ hi < 256 ∧ 1 ≤ stp ∧ m + stp ≤ us.length ∧ Hid (∀ v, mem (us.drop m) v = (rng (vl us m) hi v || mem (us.drop (m + stp)) v)) ∧ wr = wc)
                case first =>
                  cases hr : rB us m
                  · have E := rB_no hml hr
                    have E' : Hid (∀ v, mem (us.drop m) v = (rng (vl us m) (vl us m) v || mem (us.drop (m + 1)) v)) := E
                    clear E hus H
                    go_wp2
                    go_meet
                    case rel => exact ⟨vl us m, 1, rfl, rfl, b1, by omega, by omega, E', rfl⟩
                  · obtain ⟨h2, E⟩ := rB_yes hr
                    have E' : Hid (∀ v, mem (us.drop m) v = (rng (vl us m) (vl us (m + 2)) v || mem (us.drop (m + 3)) v)) := E
                    have c2 := own_val own h2
                    have b2 := hus (m + 2)
                    clear E hus H
                    go_wp2
                    go_meet
                    case rel => exact ⟨vl us (m + 2), 3, rfl, rfl, b2, by omega, by omega, E', rfl⟩
                case rest =>
                  obtain ⟨hi, stp, rfl, rfl, hhi, hst1, hst2, HM, rfl⟩ := hcut
                  go_upto_if 116 with fail
                  go_cut [14, 15] (fun l h wc => ∃ lo hh : Nat, l = .int .i64 lo ∧ h = .int .i64 hh ∧ lo ≤ hh ∧ hh < 256 ∧ Hid (∀ v, rng (vl us m) hi v = decide (lo ≤ v ∧ v ≤ hh)) ∧ wr = wc)
                  case first =>
                    by_cases hsw : hi < vl us m
                    · clear hus H HM
                      go_wp2
                      go_meet
                      case rel => exact ⟨hi, vl us m, rfl, rfl, by omega, by omega, fun v => rng_swap hsw v, rfl⟩
                    · clear hus H HM
                      go_wp2
                      go_meet
                      case rel => exact ⟨vl us m, hi, rfl, rfl, by omega, by omega, fun v => rng_keep hsw v, rfl⟩
                  case rest =>
                    obtain ⟨lo, hh, rfl, rfl, hlh, hh2, HRg, rfl⟩ := hcut
                    go_wp2
                    go_loopw [17] (fun x wi => ∃ y : Nat, lo ≤ y ∧ y ≤ hh + 1 ∧ x = .int .i64 y ∧ Own w.heap.size w1.heap.size (en (bt s) s.size q - q) (fun u => T u || (decide (lo ≤ u ∧ u < y))) us w wi) (fun x _ => hh + 1 - (intOf x).toNat)
                    case atStart => exact ⟨lo, Nat.le_refl _, by omega, rfl, own_ext own (fun v _ => by rw [decide_eq_false (by omega)]; simp)⟩
                    case round =>
                      clear own
                      obtain ⟨y, hy1, hy2, rfl, own⟩ := hrel
                      by_cases hy : y ≤ hh
                      · have c2 := own_cell own (j := y) (by omega)
                        have f2 := own.tab.frozen y
                        clear hus
                        go_wp2
                        go_roundw
                        case rel =>
                          refine ⟨y + 1, by omega, by omega, by go_num, own_ext (own_set own y true) (fun v _ => ?_)⟩
                          exact tab_more hy1
                        case measure => simp [intOf]; omega
                      · go_wp2
                        go_roundw
                        case rel =>
                          refine ⟨m + stp, _, hst2, by go_num, own, fun v => ?_⟩
                          exact tab_join (H.out v) (HM.out v) (HRg.out v) (by omega)
                        case measure => simp [intOf]; omega
            · have HT : Hid (∀ v, T v = mem us v) := fun v => by
                have := H.out v
                rw [List.drop_eq_nil_of_le (by omega)] at this
                simpa [mem] using this
              clear H hus
              go_upto_if 130 with fail
              go_cut [7] (fun ng wc => ng = .bool (neg (bt s) s.size p) ∧ ∃ Tf : Nat → Bool, Own w.heap.size w1.heap.size (en (bt s) s.size q - q) Tf us w wc ∧ Hid (∀ v, v < 256 → Tf v = (mem us v != neg (bt s) s.size p)))
              case first =>
                cases hn : neg (bt s) s.size p
                · go_wp2
                  go_meet
                  case rel => exact ⟨by rw [hn], T, own, fun v _ => by rw [HT.out v, hn]; simp⟩
                · go_wp2
                  go_loopw [18] (fun x wi => ∃ y : Nat, y ≤ 256 ∧ x = .int .i64 y ∧ Own w.heap.size w1.heap.size (en (bt s) s.size q - q) (fun u => if u < y then !T u else T u) us w wi) (fun x _ => 256 - (intOf x).toNat)
                  case atStart => exact ⟨0, by omega, rfl, own_ext own (fun v _ => by rw [if_neg (by omega)])⟩
                  case round =>
                    clear own
                    obtain ⟨y, hy, rfl, own⟩ := hrel
                    by_cases hy2 : y < 256
                    · have c2 := own_cell own hy2
                      simp only [Nat.lt_irrefl, ↓reduceIte] at c2
                      have f2 := own.tab.frozen y
                      go_wp2
                      go_roundw
                      case rel => exact ⟨y + 1, by omega, by go_num, own_ext (own_set own y (!T y)) (fun v _ => tab_flip)⟩
                      case measure => simp [intOf]; omega
                    · go_wp2
                      go_meet
                      case rel => exact ⟨by rw [hn], _, own, fun v hv => by rw [if_pos (by omega), HT.out v, hn]; simp⟩
              case rest =>
                clear own HT
                obtain ⟨rfl, Tf, own, HF⟩ := hcut
                have hu27 := Try.underlying27
                have hsz : (Try.prog.info? 27).map (·.size) = some (tabL Tf 256).length := by rw [tabL_len]; exact size27
                have hlen := tabL_len Tf 256
                have hone := tabL_one Tf 256
                have hrange := own_range own
                have hthere := own_there own
                have hback : (wc.drew.setCells w.heap.size 0 (tabL Tf 256)).rangeAt w.heap.size 0 (tabL Tf 256) := World.rangeAt_setCells_same _ _ _ _ (by rw [hlen]; exact hthere)
                have hlow : Below w.heap.size w (wc.drew.setCells w.heap.size 0 (tabL Tf 256)) := below_setCells (Nat.le_refl _) _ _ _ own.low.drew
                by_cases hee : en (bt s) s.size q < s.size
                · go_upto_region 42 with fail
                  refine ret_row4 (t := 27) (B := w.heap.size) (B' := w.heap.size + 1) (cs := tabL Tf 256) (v0 := .int .i64 ((en (bt s) s.size q : Int) + 1)) (v2 := .int .i64 ((en (bt s) s.size q : Int) + 1))
                    (by kernel_rfl) (by kernel_rfl) (by kernel_rfl) (by kernel_rfl) (by kernel_rfl) (by kernel_rfl) (by kernel_rfl) (by kernel_rfl) (by kernel_rfl) (by kernel_rfl) (fun _ _ _ h => h) (fun _ _ _ h => h) (fun _ _ _ h => h)
                    rfl rfl rfl rfl rfl rfl ?y0 ?e1 ?y2 ?e3 ?e4 hu27 rfl hsz hone hrange (by rw [hlen]; exact hthere) (by omega) ?fin
                  case y0 => intro W; go_simp
                  case e1 => go_simp
                  case y2 => intro W; go_simp
                  case e3 => go_simp
                  case e4 => go_simp
                  case fin =>
                    simp only [Act.put, List.setIfInBounds_toArray, List.set_cons_zero, List.set_cons_succ]
                    go_wp2
                    refine bodyPost_ret (v := .tuple #[.int .i64 ((en (bt s) s.size q : Int) + 1), .agg (tabL Tf 256).toArray]) (results_tmp_row Try.results17 _ _ w.heap.size (tabL Tf 256) _ _ rfl rfl hback hu27 rfl hsz) rfl ⟨ret_tab ?_ (md_end HQ.out HU.out HF.out), hlow⟩
                    unfold mdN
                    rw [← HQ.out, past_lt hee]; rfl
                · go_upto_region 42 with fail
                  refine ret_row4 (t := 27) (B := w.heap.size) (B' := w.heap.size + 1) (cs := tabL Tf 256) (v0 := .int .i64 ((en (bt s) s.size q : Int))) (v2 := .int .i64 ((en (bt s) s.size q : Int)))
                    (by kernel_rfl) (by kernel_rfl) (by kernel_rfl) (by kernel_rfl) (by kernel_rfl) (by kernel_rfl) (by kernel_rfl) (by kernel_rfl) (by kernel_rfl) (by kernel_rfl) (fun _ _ _ h => h) (fun _ _ _ h => h) (fun _ _ _ h => h)
                    rfl rfl rfl rfl rfl rfl ?y0 ?e1 ?y2 ?e3 ?e4 hu27 rfl hsz hone hrange (by rw [hlen]; exact hthere) (by omega) ?fin
                  case y0 => intro W; go_simp
                  case e1 => go_simp
                  case y2 => intro W; go_simp
                  case e3 => go_simp
                  case e4 => go_simp
                  case fin =>
                    simp only [Act.put, List.setIfInBounds_toArray, List.set_cons_zero, List.set_cons_succ]
                    go_wp2
                    refine bodyPost_ret (v := .tuple #[.int .i64 ((en (bt s) s.size q : Int)), .agg (tabL Tf 256).toArray]) (results_tmp_row Try.results17 _ _ w.heap.size (tabL Tf 256) _ _ rfl rfl hback hu27 rfl hsz) rfl ⟨ret_tab ?_ (md_end HQ.out HU.out HF.out), hlow⟩
                    unfold mdN
                    rw [← HQ.out, past_ge hee]
end Go.Proofs.Qxb6603803a
