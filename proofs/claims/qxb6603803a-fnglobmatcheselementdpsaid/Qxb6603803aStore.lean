/-
  A WHOLE ARRAY STORED INTO THE BLOCK THAT WAS MADE LAST ('next, in := modelSet(..)').
-/
import Derived.Test.Qxb6603803aMem
namespace Go.Proofs.Qxb6603803a
open Go.RowKit
theorem store_new {P : Program} {ops : Array Oper} {rest : List Oper} {o : Oper} {a : Act} {Q : Exit → Act → World → Prop} (W : World) (hgd : o.guard = none) (t : TypeId) (x y : Operand) (ho : o.op = .store t x y)
    (c c' : Array Value) (hx : a.eval x = .pointer (some ⟨W.heap.size, 0, none⟩)) (hy : a.eval y = .agg c') (hi : (P.info? t).map (·.size) = some c'.size) (hc : c.size = c'.size) (h1 : c'.all (·.oneCell') = true)
    (h : wpList P ops Q rest (a.put o.dst undef) (W.alloc (.cells c' t))) : wpList P ops Q (o :: rest) a (W.alloc (.cells c t)) := by
  refine wpList_store_row hgd t x y ho W.heap.size c' hx hy t c (heap_alloc_last W _) hi hc h1 ?_
  rw [World.setRow_alloc_new]; exact h
end Go.Proofs.Qxb6603803a
