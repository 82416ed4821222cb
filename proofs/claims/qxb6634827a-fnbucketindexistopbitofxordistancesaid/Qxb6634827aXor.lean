/- zzXor, zzBit: the walks. -/
import Derived.Test.Qxb6634827aRow
import Derived.Laws.CopyOwn
namespace Go.Proofs.Qxb6634827a
open Go.RowKit
attribute [local go_sem ↓] Go.wp_at_zero Go.wp_at_succ

theorem heap_new (w : World) (o : Obj) (k : Nat) (hk : w.heap.size = k) : (w.alloc o).heap[k]? = some o := by
  subst hk
  exact heap_alloc_new w o

/-- A whole array into a block that is known whole, at the list. -/
theorem wpList_store_row {P : Program} {ops : Array Oper} {rest : List Oper} {op : Oper} {a : Act} {w : World} {Q : Exit → Act → World → Prop} (hgd : op.guard = none) (ty : TypeId) (x y : Operand) (ho : op.op = .store ty x y)
    (g : Nat) (t : TypeId) (c c' : Array Value) (hx : a.eval x = .pointer (some ⟨g, 0, none⟩)) (hy : a.eval y = .agg c') (hg : w.heap[g]? = some (.cells c t (0, 0))) (hi : (P.info? ty).map (·.size) = some c'.size) (hs : c.size = c'.size) (h1 : c'.all (·.oneCell') = true)
    (h : wpList P ops Q rest (a.put op.dst undef) (w.setRow g c')) : wpList P ops Q (op :: rest) a w :=
  wpList_plain hgd fun _ hK => by
    unfold Oper.wp execOp
    simp only [ho, hx, hy, Instr.storeAt, Instr.sureAddr, run_storeVar_row w g t ty c c' hg hi hs h1, Sem.run_bind, Sem.run_pure, Result.andThen_ok]
    exact hK _ _ h

set_option maxHeartbeats 2000000 in
set_option maxRecDepth 100000 in
/-- zzXor. -/
theorem xr_any (f g : Nat → Nat) (w : World) (hf : By f) (hg : By g) :
    Calls Try.prog 6 #[.agg (arr f), .agg (arr g)] w fun e w' => e = .returned (.agg (arr fun i => f i ^^^ g i)) ∧ Below w.heap.size w w' := by
  go_enter Try.func6, Try.ntmps6
  go_wp2
  generalize hW : World.alloc _ _ = w4
  have hF : Row w4 w.heap.size f := by
    rw [← hW]
    show _ = _
    rw [Below.heap_alloc _ _ _ (by simp; omega), Below.heap_alloc _ _ _ (by simp; omega), Below.heap_alloc _ _ _ (by simp)]
    exact heap_alloc_new w _
  have hG : Row w4 (w.heap.size + 1) g := by
    rw [← hW]
    show _ = _
    rw [Below.heap_alloc _ _ _ (by simp), Below.heap_alloc _ _ _ (by simp)]
    exact heap_new _ _ _ (by simp)
  obtain ⟨z0, hz0, hs0⟩ : ∃ c, w4.heap[w.heap.size + 1 + 1]? = some (.cells c 22 (0, 0)) ∧ c.size = 32 := by
    rw [← hW]
    rw [Below.heap_alloc _ _ _ (by simp)]
    exact ⟨_, heap_new _ _ _ (by simp), rfl⟩
  obtain ⟨x0, hx0, hs1⟩ : ∃ c, w4.heap[w.heap.size + 1 + 1 + 1]? = some (.cells c 22 (0, 0)) ∧ c.size = 32 := by
    rw [← hW]
    exact ⟨_, heap_new _ _ _ (by simp), rfl⟩
  have hb : Below w.heap.size w w4 := by
    rw [← hW]
    exact ((((Below.refl _ _).alloc (Nat.le_refl _) _).alloc (by simp) _).alloc (by simp; omega) _).alloc (by simp; omega) _
  have HZ0 := hid hz0
  have HX0 := hid hx0
  have HS0 := hid hs0
  have HS1 := hid hs1
  clear hW hz0 hx0 hs0 hs1
  go_loopw [6] (fun vi wr => ∃ (i : Nat) (cur : Array Value), i ≤ 32 ∧ vi = .int .i64 i ∧ Hid (wr.heap[w.heap.size + 1 + 1 + 1]? = some (.cells cur 22 (0, 0))) ∧ Hid (cur.size = 32) ∧ Hid (∀ j, j < i → cur[j]? = some (.int .u8 (f j ^^^ g j : Nat))) ∧ Row wr w.heap.size f ∧ Row wr (w.heap.size + 1) g ∧ Hid (wr.heap[w.heap.size + 1 + 1]? = some (.cells z0 22 (0, 0))) ∧ Below w.heap.size w wr) (fun vi _ => 32 - (intOf vi).toNat)
  case atStart => exact ⟨0, x0, by omega, rfl, HX0, HS1, hid (fun j hj => by omega), hF, hG, HZ0, hb⟩
  case round =>
    clear HX0 HS1 hF hG HZ0 hb
    obtain ⟨i, cur, hi, rfl, HX, HS, HD, hF, hG, HZ, hb⟩ := hrel
    by_cases hlt : i < 32
    · have c0 := hF.cell i hlt
      have c1 := hG.cell i hlt
      have hv := xor8 (f i) (g i) (hf i) (hg i)
      obtain ⟨u, c2⟩ : ∃ u, wr.cell? ⟨w.heap.size + 1 + 1 + 1, i, none⟩ = some u := by
        rw [cell_of_row wr _ i cur 22 (0, 0) HX.out, Array.getElem?_eq_getElem (by have := HS.out; omega)]
        exact ⟨_, rfl⟩
      have f2 : wr.frozen? ⟨w.heap.size + 1 + 1 + 1, i, none⟩ = false := by
        have h' := HX.out
        unfold World.frozen?
        show (match wr.heap[w.heap.size + 1 + 1 + 1]? with | .some (.cells _ _ (lo, hi)) => decide (lo ≤ i) && decide (i < hi) | _ => false) = false
        rw [h']
        simp
      have hrow : ∀ v : Value, (wr.setCell ⟨w.heap.size + 1 + 1 + 1, i, none⟩ v).drew.heap[w.heap.size + 1 + 1 + 1]? = some (.cells (cur.setIfInBounds i v) 22 (0, 0)) := fun v => by
        show (wr.setCell ⟨w.heap.size + 1 + 1 + 1, i, none⟩ v).heap[w.heap.size + 1 + 1 + 1]? = _
        rw [setCell_eq_setRow wr (w.heap.size + 1 + 1 + 1) i cur 22 (0, 0) v HX.out]
        exact setRow_heap wr _ _ _ 22 _ HX.out
      have HROW := hid (hrow (.int .u8 (f i ^^^ g i : Nat)))
      have HF2 := hid (row_other hF i (.int .u8 (f i ^^^ g i : Nat)) (show w.heap.size ≠ w.heap.size + 1 + 1 + 1 by omega))
      have HG2 := hid (row_other hG i (.int .u8 (f i ^^^ g i : Nat)) (show w.heap.size + 1 ≠ w.heap.size + 1 + 1 + 1 by omega))
      have HZ2 := hid ((Below.heap_setCell wr ⟨w.heap.size + 1 + 1 + 1, i, none⟩ (.int .u8 (f i ^^^ g i : Nat)) (w.heap.size + 1 + 1) (by show w.heap.size + 1 + 1 ≠ w.heap.size + 1 + 1 + 1; omega)).trans HZ.out)
      have HB2 := hid ((hb.setCell (p := ⟨w.heap.size + 1 + 1 + 1, i, none⟩) (by simp; omega) (.int .u8 (f i ^^^ g i : Nat))).drew)
      have HD2 : Hid (∀ j, j < i + 1 → (cur.setIfInBounds i (.int .u8 (f i ^^^ g i : Nat)))[j]? = some (.int .u8 (f j ^^^ g j : Nat))) := hid (fun j hj => by
        rw [Array.getElem?_setIfInBounds]
        by_cases e : i = j
        · rw [if_pos e, if_pos (by have := HS.out; omega), e]
        · rw [if_neg e]
          exact HD.out j (by omega))
      have HS2 : Hid ((cur.setIfInBounds i (.int .u8 (f i ^^^ g i : Nat))).size = 32) := by
        show _ = _
        rw [Array.size_setIfInBounds]
        exact HS.out
      clear hrow HX HS HD hF hG HZ hb
      have i1 : (0 : Int) ≤ (i : Int) := by omega
      have i2 : (i : Int) < 32 := by omega
      go_wp2
      go_region_held3 (fun w' => w'.cell? ⟨w.heap.size, i, none⟩ = some (.int .u8 (f i : Nat)) ∧ w'.cell? ⟨w.heap.size + 1, i, none⟩ = some (.int .u8 (g i : Nat)))
        (simp [go_sem, c0, c1]) (fail)
      go_wp2
      go_roundw
      case rel => exact ⟨i + 1, _, by omega, by go_num, HROW, HS2, HD2, HF2.out, HG2.out, HZ2, HB2.out⟩
      case measure => simp [intOf]; omega
    · have ei : i = 32 := by omega
      subst ei
      have hcur : cur = arr (fun i => f i ^^^ g i) := arr_ext _ cur HS.out HD.out
      subst hcur
      go_wp2_with (first
        | (refine wpList_load_row rfl 22 (.tmp 5) rfl (w.heap.size + 1 + 1 + 1) rfl 22 (arr (fun i => f i ^^^ g i)) (0, 0) _ HX.out Try.underlying22 rfl (size22 _) ?_)
        | (refine wpList_store_row rfl 22 (.tmp 4) (.tmp 20) rfl (w.heap.size + 1 + 1) 22 z0 (arr (fun i => f i ^^^ g i)) rfl rfl HZ.out (size22 _) (by rw [arr_size]; exact HS0.out) (arr_one _) ?_))
      (try simp only [Exit.inBlock, Exit.then])
      refine bodyPost_ret (v := .agg (arr fun i => f i ^^^ g i)) ?_ rfl ⟨rfl, ?_⟩
      · exact results_cell_row rfl _ _ (w.heap.size + 1 + 1) 22 _ (0, 0) _ rfl (setRow_heap wr _ _ _ 22 _ HZ.out) Try.underlying22 rfl (size22 _)
      · exact below_setRow hb (by omega) _

end Go.Proofs.Qxb6634827a
