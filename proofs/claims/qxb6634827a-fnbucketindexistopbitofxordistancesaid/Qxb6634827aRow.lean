/- Whole arrays in memory. -/
import Derived.Test.Qxb6634827aIdx
import Derived.Deep.WholeRow
namespace Go.Proofs.Qxb6634827a
open Go.RowKit

/-- A whole array into the block that was made last, at the list. -/
theorem wpList_store_new {P : Program} {ops : Array Oper} {rest : List Oper} {op : Oper} {a : Act} {w : World} {Q : Exit → Act → World → Prop} (hgd : op.guard = none) (ty : TypeId) (x y : Operand) (ho : op.op = .store ty x y)
    (c c' : Array Value) (hx : a.eval x = .pointer (some ⟨w.heap.size, 0, none⟩)) (hy : a.eval y = .agg c') (hi : (P.info? ty).map (·.size) = some c'.size) (hs : c.size = c'.size) (h1 : c'.all (·.oneCell') = true)
    (h : wpList P ops Q rest (a.put op.dst undef) (w.alloc (.cells c' ty))) : wpList P ops Q (op :: rest) a (w.alloc (.cells c ty)) :=
  wpList_plain hgd fun _ hK => by
    unfold Oper.wp execOp
    simp only [ho, hx, hy, run_storeAt_new w ty c c' hi hs h1, Sem.run_bind, Sem.run_pure, Result.andThen_ok]
    exact hK _ _ h

theorem info22 : (Try.prog.info? 22).map (·.size) = some 32 := by kernel_rfl
theorem size22 (f : Nat → Nat) : (Try.prog.info? 22).map (·.size) = some (arr f).size := by rw [arr_size]; exact info22

/-- A block that holds an array of 32 bytes. -/
def Row (w : World) (g : Nat) (f : Nat → Nat) : Prop := w.heap[g]? = some (.cells (arr f) 22 (0, 0))
theorem Row.cell {w : World} {g : Nat} {f : Nat → Nat} (h : Row w g f) (i : Nat) (hi : i < 32) : w.cell? ⟨g, i, none⟩ = some (.int .u8 (f i : Nat)) := by
  rw [cell_of_row w g i _ 22 (0, 0) h, arr_get f i hi]
theorem Row.froz {w : World} {g : Nat} {f : Nat → Nat} (h : Row w g f) (i : Nat) : w.frozen? ⟨g, i, none⟩ = false := by
  have h' : w.heap[g]? = some (.cells (arr f) 22 (0, 0)) := h
  unfold World.frozen?
  show (match w.heap[g]? with | .some (.cells _ _ (lo, hi)) => decide (lo ≤ i) && decide (i < hi) | _ => false) = false
  rw [h']
  simp
theorem Row.lt {w : World} {g : Nat} {f : Nat → Nat} (h : Row w g f) : g < w.heap.size := (Array.getElem?_eq_some_iff.1 h).1
theorem Row.below {w w' : World} {g : Nat} {f : Nat → Nat} (h : Row w g f) (hb : Below w.heap.size w w') : Row w' g f := (hb.block g h.lt).trans h

theorem row_other {w : World} {b k : Nat} {f : Nat → Nat} (h : Row w b f) (j : Nat) (v : Value) (hne : b ≠ k) : Row (w.setCell ⟨k, j, none⟩ v) b f :=
  (Below.heap_setCell w ⟨k, j, none⟩ v b hne).trans h

end Go.Proofs.Qxb6634827a
