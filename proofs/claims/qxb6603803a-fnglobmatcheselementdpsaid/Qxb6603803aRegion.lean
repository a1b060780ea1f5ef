/-
  A REGION THAT DRAWS ITS ORDER: 'return x, arr', arr a whole array that goes by value into the result's own block: move(s), a load of the array, an assign, a store of the array. In whatever order: one end. Two shapes: four operations, five operations.
-/
import Derived.Test.Qxb6603803aMem
import Derived.Deep.RegionHeld2
namespace Go.Proofs.Qxb6603803a
open Go.RowKit

theorem keep_set {W : World} {B B' n : Nat} {cs cs' : List Value} (hne : B' ≠ B) (h : W.rangeAt B' 0 cs ∧ W.there B 0 n) : (W.setCells B 0 cs').rangeAt B' 0 cs ∧ (W.setCells B 0 cs').there B 0 n :=
  ⟨World.rangeAt_setCells_apart h.1 _ _ _ (.inl hne), World.there_setCells h.2 _ _ _⟩

theorem wanted_none {ops : Array Oper} {o : Oper} {a : Act} (hg : o.guard = none) : Region.wanted o (yielded ops a.tmps) = true := by simp [Region.wanted, hg]

theorem ret_row4 {P : Program} {o0 o1 o2 o3 : Oper} {Q : Exit → Act → World → Prop} {id : Nat} {a : Act} {w : World} {t : TypeId} {B B' : Nat} {cs : List Value} {d : TypeDesc} {v0 v2 : Value} {px p y : Operand}
    (hm : P.follows .mixedOrders = true) (hs : Region.noSelect #[o0, o1, o2, o3] = true)
    (f0 : Region.free .any #[o0, o1, o2, o3] #[false, false, false, false] 0 = true) (r0 : (Region.ready .any #[o0, o1, o2, o3] #[false, false, false, false]).contains 0 = true)
    (f1 : Region.free .any #[o0, o1, o2, o3] #[true, false, false, false] 1 = true) (r1 : (Region.ready .any #[o0, o1, o2, o3] #[true, false, false, false]).contains 1 = true)
    (f2 : Region.free .any #[o0, o1, o2, o3] #[true, true, false, false] 2 = true) (r2 : (Region.ready .any #[o0, o1, o2, o3] #[true, true, false, false]).contains 2 = true)
    (r3 : Region.ready .any #[o0, o1, o2, o3] #[true, true, true, false] = [3]) (r4 : Region.ready .any #[o0, o1, o2, o3] #[true, true, true, true] = [])
    (q0 : ∀ c (a : Act) w, Q (.panic c) (a.put o0.dst v0) w → Q (.panic c) a w) (q1 : ∀ c (a : Act) w, Q (.panic c) (a.put o1.dst (.agg cs.toArray)) w → Q (.panic c) a w) (q2 : ∀ c (a : Act) w, Q (.panic c) (a.put o2.dst v2) w → Q (.panic c) a w)
    (g0 : o0.guard = none) (g1 : o1.guard = none) (g2 : o2.guard = none) (g3 : o3.guard = none)
    (h1 : o1.op = .load t px) (h3 : o3.op = .store t p y)
    (y0 : ∀ w, (execOp a.eval o0).run P w = .ok (.value v0) w)
    (e1 : (a.put o0.dst v0).eval px = .pointer (some ⟨B', 0, none⟩))
    (y2 : ∀ w, (execOp ((a.put o0.dst v0).put o1.dst (.agg cs.toArray)).eval o2).run P w = .ok (.value v2) w)
    (e3 : (((a.put o0.dst v0).put o1.dst (.agg cs.toArray)).put o2.dst v2).eval p = .pointer (some ⟨B, 0, none⟩))
    (e4 : (((a.put o0.dst v0).put o1.dst (.agg cs.toArray)).put o2.dst v2).eval y = .agg cs.toArray)
    (hu : P.underlying t = some d) (hd : d.isRow = true) (hi : (P.info? t).map (·.size) = some cs.length) (hone : ∀ v ∈ cs, v.oneCell' = true)
    (hr : w.rangeAt B' 0 cs) (ht : w.there B 0 cs.length) (hne : B' ≠ B)
    (h : Q .normal ((((a.put o0.dst v0).put o1.dst (.agg cs.toArray)).put o2.dst v2).put o3.dst undef) (w.drew.setCells B 0 cs)) :
    (Code.region id #[o0, o1, o2, o3] true).wp P Q a w := by
  refine wp_region_held_drew (S := fun w' => w'.rangeAt B' 0 cs ∧ w'.there B 0 cs.length) hm ⟨hr, ht⟩ (fun hHeld => ?_)
  refine wpAnyH_take (i := 0) (oi := o0) (v := v0) rfl hs f0 r0 q0 (.inl ⟨wanted_none g0, fun w _ => y0 w⟩) hHeld ?_
  refine wpAnyH_take (i := 1) (oi := o1) (v := .agg cs.toArray) rfl hs f1 r1 q1 (yieldsIf_load_mid (wanted_none g1) t px h1 B' 0 e1 cs d (fun w h => h.1) hu hd hi) hHeld ?_
  refine wpAnyH_take (i := 2) (oi := o2) (v := v2) rfl hs f2 r2 q2 (.inl ⟨wanted_none g2, fun w _ => y2 w⟩) hHeld ?_
  refine wpAnyH_ready (rs := [3]) r3 (by simp) ?_
  refine AllReadyH.cons (o := o3) rfl ?_ AllReadyH.nil
  intro K hK
  rw [if_pos (wanted_none g3)]
  refine wp_store_mid t p y h3 B 0 cs.toArray e3 e4 (by rw [List.size_toArray]; exact hHeld.2) (by rw [List.size_toArray]; exact hi) (all_oneCell_toArray hone) ?_
  refine hK.out _ _ (keep_set hne hHeld) ?_
  intro _
  exact wpAnyH_done r4 h _

theorem ret_row5 {P : Program} {o0 oa o1 o2 o3 : Oper} {Q : Exit → Act → World → Prop} {id : Nat} {a : Act} {w : World} {t : TypeId} {B B' : Nat} {cs : List Value} {d : TypeDesc} {v0 va v2 : Value} {px p y : Operand}
    (hm : P.follows .mixedOrders = true) (hs : Region.noSelect #[o0, oa, o1, o2, o3] = true)
    (f0 : Region.free .any #[o0, oa, o1, o2, o3] #[false, false, false, false, false] 0 = true) (r0 : (Region.ready .any #[o0, oa, o1, o2, o3] #[false, false, false, false, false]).contains 0 = true)
    (fa : Region.free .any #[o0, oa, o1, o2, o3] #[true, false, false, false, false] 1 = true) (ra : (Region.ready .any #[o0, oa, o1, o2, o3] #[true, false, false, false, false]).contains 1 = true)
    (f1 : Region.free .any #[o0, oa, o1, o2, o3] #[true, true, false, false, false] 2 = true) (r1 : (Region.ready .any #[o0, oa, o1, o2, o3] #[true, true, false, false, false]).contains 2 = true)
    (f2 : Region.free .any #[o0, oa, o1, o2, o3] #[true, true, true, false, false] 3 = true) (r2 : (Region.ready .any #[o0, oa, o1, o2, o3] #[true, true, true, false, false]).contains 3 = true)
    (r3 : Region.ready .any #[o0, oa, o1, o2, o3] #[true, true, true, true, false] = [4]) (r4 : Region.ready .any #[o0, oa, o1, o2, o3] #[true, true, true, true, true] = [])
    (q0 : ∀ c (a : Act) w, Q (.panic c) (a.put o0.dst v0) w → Q (.panic c) a w) (qa : ∀ c (a : Act) w, Q (.panic c) (a.put oa.dst va) w → Q (.panic c) a w) (q1 : ∀ c (a : Act) w, Q (.panic c) (a.put o1.dst (.agg cs.toArray)) w → Q (.panic c) a w) (q2 : ∀ c (a : Act) w, Q (.panic c) (a.put o2.dst v2) w → Q (.panic c) a w)
    (g0 : o0.guard = none) (ga : oa.guard = none) (g1 : o1.guard = none) (g2 : o2.guard = none) (g3 : o3.guard = none)
    (h1 : o1.op = .load t px) (h3 : o3.op = .store t p y)
    (y0 : ∀ w, (execOp a.eval o0).run P w = .ok (.value v0) w)
    (ya : ∀ w, (execOp (a.put o0.dst v0).eval oa).run P w = .ok (.value va) w)
    (e1 : ((a.put o0.dst v0).put oa.dst va).eval px = .pointer (some ⟨B', 0, none⟩))
    (y2 : ∀ w, (execOp (((a.put o0.dst v0).put oa.dst va).put o1.dst (.agg cs.toArray)).eval o2).run P w = .ok (.value v2) w)
    (e3 : ((((a.put o0.dst v0).put oa.dst va).put o1.dst (.agg cs.toArray)).put o2.dst v2).eval p = .pointer (some ⟨B, 0, none⟩))
    (e4 : ((((a.put o0.dst v0).put oa.dst va).put o1.dst (.agg cs.toArray)).put o2.dst v2).eval y = .agg cs.toArray)
    (hu : P.underlying t = some d) (hd : d.isRow = true) (hi : (P.info? t).map (·.size) = some cs.length) (hone : ∀ v ∈ cs, v.oneCell' = true)
    (hr : w.rangeAt B' 0 cs) (ht : w.there B 0 cs.length) (hne : B' ≠ B)
    (h : Q .normal (((((a.put o0.dst v0).put oa.dst va).put o1.dst (.agg cs.toArray)).put o2.dst v2).put o3.dst undef) (w.drew.setCells B 0 cs)) :
    (Code.region id #[o0, oa, o1, o2, o3] true).wp P Q a w := by
  refine wp_region_held_drew (S := fun w' => w'.rangeAt B' 0 cs ∧ w'.there B 0 cs.length) hm ⟨hr, ht⟩ (fun hHeld => ?_)
  refine wpAnyH_take (i := 0) (oi := o0) (v := v0) rfl hs f0 r0 q0 (.inl ⟨wanted_none g0, fun w _ => y0 w⟩) hHeld ?_
  refine wpAnyH_take (i := 1) (oi := oa) (v := va) rfl hs fa ra qa (.inl ⟨wanted_none ga, fun w _ => ya w⟩) hHeld ?_
  refine wpAnyH_take (i := 2) (oi := o1) (v := .agg cs.toArray) rfl hs f1 r1 q1 (yieldsIf_load_mid (wanted_none g1) t px h1 B' 0 e1 cs d (fun w h => h.1) hu hd hi) hHeld ?_
  refine wpAnyH_take (i := 3) (oi := o2) (v := v2) rfl hs f2 r2 q2 (.inl ⟨wanted_none g2, fun w _ => y2 w⟩) hHeld ?_
  refine wpAnyH_ready (rs := [4]) r3 (by simp) ?_
  refine AllReadyH.cons (o := o3) rfl ?_ AllReadyH.nil
  intro K hK
  rw [if_pos (wanted_none g3)]
  refine wp_store_mid t p y h3 B 0 cs.toArray e3 e4 (by rw [List.size_toArray]; exact hHeld.2) (by rw [List.size_toArray]; exact hi) (all_oneCell_toArray hone) ?_
  refine hK.out _ _ (keep_set hne hHeld) ?_
  intro _
  exact wpAnyH_done r4 h _

/-- Results: a slot, then a whole array in the result's own block. -/
theorem results_tmp_row {P : Program} {fn : Func} {p u : Tmp} {ty : TypeId} (h : fn.results = #[.tmp u, .cell p ty]) (tmps : Array Value) (w : World) (g : Nat) (cs : List Value) (d : TypeDesc) (v : Value)
    (hp : tmps.getD p undef = .pointer (some ⟨g, 0, none⟩)) (hv : tmps.getD u undef = v) (hg : w.rangeAt g 0 cs)
    (hu : P.underlying ty = some d) (hd : d.isRow = true) (hi : (P.info? ty).map (·.size) = some cs.length) :
    (results fn tmps).run P w = .ok (.tuple #[v, .agg cs.toArray]) w := by
  have hl := run_loadVar_mid (P := P) w g 0 ty cs d hg hu hd hi
  simp only [results, h]
  simp at hp hv
  simp [Result.andThen, hp, hv, asAddr, hl]
end Go.Proofs.Qxb6603803a
