/- Resolve: the walk. -/
import Derived.Test.Qxb6632608aBuild
import Derived.Laws.CopyOwn
namespace Go.Proofs.Qxb6632608a
open Go.RowKit
attribute [local go_sem ↓] Go.wp_at_zero Go.wp_at_succ

def cellsOf (ts : List Tm) : List Value := ts.flatMap Tm.vs
theorem cellsOf_length (ts : List Tm) : (cellsOf ts).length = ts.length * 3 := by
  induction ts with
  | nil => rfl
  | cons t r ih =>
    have e : cellsOf (t :: r) = t.vs ++ cellsOf r := by simp [cellsOf]
    rw [e, List.length_append, ih]
    simp [Tm.vs]
    omega
theorem cellsOf_append (xs ys : List Tm) : cellsOf (xs ++ ys) = cellsOf xs ++ cellsOf ys := by simp [cellsOf]
theorem cellsOf_one (ts : List Tm) : ∀ v ∈ cellsOf ts, v.oneCell' = true := by
  intro v hv
  obtain ⟨t, _, ht⟩ := List.mem_flatMap.1 hv
  simp [Tm.vs] at ht
  rcases ht with rfl | rfl | rfl <;> rfl
theorem cellsOf_get (ts : List Tm) (i : Nat) (hi : i < ts.length) : (cellsOf ts)[i * 3]? = some (.string ts[i].key) ∧ (cellsOf ts)[i * 3 + 1]? = some (.int .i64 ts[i].idx) ∧ (cellsOf ts)[i * 3 + 2]? = some (.bool ts[i].isx) := by
  have e1 : cellsOf ts = cellsOf (ts.take i) ++ (ts[i].vs ++ cellsOf (ts.drop (i + 1))) := by
    have e : cellsOf (ts[i] :: ts.drop (i + 1)) = ts[i].vs ++ cellsOf (ts.drop (i + 1)) := by unfold cellsOf; rw [List.flatMap_cons]
    rw [← e, ← List.drop_eq_getElem_cons hi, ← cellsOf_append, List.take_append_drop]
  have hl : (cellsOf (ts.take i)).length = i * 3 := by rw [cellsOf_length, List.length_take]; omega
  rw [e1]
  refine ⟨?_, ?_, ?_⟩
  · rw [List.getElem?_append_right (by omega), hl]; simp [Tm.vs]
  · rw [List.getElem?_append_right (by omega), hl]; simp [Tm.vs]
  · rw [List.getElem?_append_right (by omega), hl]; simp [Tm.vs]
theorem flat_of_tms {w : World} {b off : Nat} {ts : List Tm} (h : TmsAt w b off ts) : ∀ j v, (cellsOf ts)[j]? = some v → w.cell? ⟨b, off + j, none⟩ = some v := by
  intro j v hv
  have hj : j < ts.length * 3 := by rw [← cellsOf_length]; exact (List.getElem?_eq_some_iff.1 hv).1
  have hi : j / 3 < ts.length := by omega
  obtain ⟨g0, g1, g2⟩ := cellsOf_get ts (j / 3) hi
  obtain ⟨c0, c1, c2⟩ := h (j / 3) hi
  have hr : j % 3 = 0 ∨ j % 3 = 1 ∨ j % 3 = 2 := by omega
  rcases hr with hr | hr | hr
  · have ej : j / 3 * 3 = j := by omega
    rw [ej] at g0 c0
    rw [c0, ← hv, g0]
  · have ej : j / 3 * 3 + 1 = j := by omega
    rw [ej] at g1
    rw [Nat.add_assoc, ej] at c1
    rw [c1, ← hv, g1]
  · have ej : j / 3 * 3 + 2 = j := by omega
    rw [ej] at g2
    rw [Nat.add_assoc, ej] at c2
    rw [c2, ← hv, g2]
theorem tms_of_row {w : World} {g : Nat} {ts : List Tm} {t : TypeId} {fr : Nat × Nat} (h : w.heap[g]? = some (.cells (cellsOf ts).toArray t fr)) : TmsAt w g 0 ts := by
  intro i hi
  obtain ⟨g0, g1, g2⟩ := cellsOf_get ts i hi
  have hc := fun j => cell_of_row w g j _ t fr h
  rw [Nat.zero_add]
  exact ⟨by rw [hc]; simpa using g0, by rw [hc]; simpa using g1, by rw [hc]; simpa using g2⟩

/-- copy of elements of three cells, as one step of a region that draws. -/
theorem step_copy3 {P : Program} {ops : Array Oper} {o : Oper} {a : Act} {w : World} {K : Act → World → Prop} {Q : Exit → Act → World → Prop} {E : Prop} (hgd : o.guard = none) (d s : Operand) (dT sT : TypeId)
    (ho : o.op = .call { callee := .builtin .copy, args := #[d, s], argTypes := #[dT, sT] }) (elem : TypeId) (hu : P.underlying dT = some (.slice elem)) (hsz : (P.info? elem).map (·.size) = some 3)
    (dp sp : Option Addr) (dLen dCap sLen sCap : Nat) (hd : a.eval d = .slice dp dLen dCap) (hs : a.eval s = .slice sp sLen sCap)
    (g off : Nat) (cur : List Value) (t : TypeId) (hg : w.heap[g]? = some (.cells cur.toArray t (0, 0))) (cs : List Value) (hn : cs.length = Nat.min sLen dLen * 3)
    (hpos : 0 < cs.length → dp = some ⟨g, off, none⟩ ∧ ∃ ad, sp = some ad ∧ ∀ j v, cs[j]? = some v → w.cell? (ad.add j) = some v)
    (hfit : off + cs.length ≤ cur.length) (h1 : ∀ v ∈ cs, v.oneCell' = true) (B : Nat) (w0 : World) (hb : Below B w0 w) (hBg : B ≤ g)
    (h : ∀ v w', Hid (w'.heap[g]? = some (.cells (splice cur off cs).toArray t (0, 0))) → Below B w0 w' → K (a.put o.dst v) w') :
    if Region.wanted o (yielded ops a.tmps) = true then Oper.wp P o a w K Q else E := by
  have hw : Region.wanted o (yielded ops a.tmps) = true := by simp [Region.wanted, hgd]
  rw [if_pos hw]
  cases hq : P.info? elem with
  | none => simp [hq] at hsz
  | some i =>
    have hi : i.size = 3 := by simpa [hq] using hsz
    by_cases h0 : cs.length = 0
    · obtain rfl : cs = [] := List.eq_nil_of_length_eq_zero h0
      have hm : Nat.min sLen dLen = 0 := by simp at hn; omega
      have hf : (Builtin.firstCells 3 0 (.slice sp sLen sCap)).run P w = .ok #[] w := by
        cases sp with
        | none => rfl
        | some x => simpa using run_firstCells_some (P := P) w 3 0 x sLen sCap [] rfl (fun j u hu => by simp at hu)
      have hrun : (Builtin.copy_ #[dT, sT] o.type #[.slice dp dLen dCap, .slice sp sLen sCap]).run P w = .ok (goInt (0 : Nat)) w := by
        cases dp with
        | none => simp [Builtin.copy_, run_underlying hu, Builtin.lenOf, sizeOf, typeInfo, hq, hi, hm, hf]
        | some x => simp [Builtin.copy_, run_underlying hu, Builtin.lenOf, sizeOf, typeInfo, hq, hi, hm, hf, storeCells]
      unfold Oper.wp
      simp [execOp, ho, resolve, invoke, builtin, hd, hs, hrun, Result.andThen]
      exact h _ w (show _ = _ by simpa [splice] using hg) hb
    · obtain ⟨rfl, ad, rfl, hsrc⟩ := hpos (by omega)
      have hl := run_loadCells_list (P := P) w ad cs hsrc
      have hst := run_storeCells_at P g off t cs 0 cur.toArray w hg (by simpa using hfit) h1
      rw [hn] at hl
      have hrun : (Builtin.copy_ #[dT, sT] o.type #[.slice (some ⟨g, off, none⟩) dLen dCap, .slice (some ad) sLen sCap]).run P w = .ok (goInt (Nat.min sLen dLen)) (w.setRow g (cur.take off ++ cs ++ cur.drop (off + cs.length)).toArray) := by
        simp [Builtin.copy_, run_underlying hu, Builtin.lenOf, Builtin.firstCells, sizeOf, typeInfo, hq, hi, hl, hst]
      unfold Oper.wp
      simp [execOp, ho, resolve, invoke, builtin, hd, hs, hrun, Result.andThen]
      exact h _ _ (show _ = _ by simpa [splice] using setRow_heap w g _ _ t _ hg) (below_setRow hb hBg _)

/-- Where a variable of type Written points: a number that falls along the chain. -/
def ptr (w : World) (H : Nat) : Nat := match w.cell? ⟨H, 0, none⟩ with | some (.pointer (some x)) => x.block + 1 | _ => 0
theorem ptr_lt {w w' : World} {H g : Nat} {pp : Option Addr} (h : w.cell? ⟨H, 0, none⟩ = some (.pointer (some ⟨g, 0, none⟩))) (h' : w'.cell? ⟨H, 0, none⟩ = some (.pointer pp)) (hx : ∀ x, pp = some x → x.block < g) : ptr w' H < ptr w H := by
  unfold ptr
  rw [h, h']
  cases pp with
  | none => simp
  | some x => have := hx x rfl; simp; omega

theorem Ch.cons {w : World} {B : Nat} {rs : List (List Tm)} {p a : Option Addr} {n : Nat} (h : Ch w B rs p a n) : ∃ ts r, Ch w B (ts :: r) p a n ∧ tot (ts :: r) = tot rs ∧ (ts :: r).reverse.flatten = rs.reverse.flatten := by
  cases rs with
  | nil =>
    obtain ⟨h1, h2⟩ := h
    exact ⟨[], [], ⟨⟨h2, Or.inl h2⟩, Or.inl ⟨rfl, h1⟩⟩, by simp [tot], by simp⟩
  | cons ts r => exact ⟨ts, r, h, rfl, rfl⟩

set_option maxHeartbeats 1000000 in
set_option maxRecDepth 100000 in
/-- Resolve of a path that stands alone. -/
theorem rs_none (a : Option Addr) (n c : Nat) (w : World) :
    Calls Try.prog 8 #[.agg #[.pointer none, .slice a n c]] w fun e w' => e = .returned (.slice a n c) ∧ Below w.heap.size w w' := by
  go_enter Try.func8, Try.ntmps8
  go_wp2
  go_ret
  exact ⟨rfl, (Below.refl _ _).alloc (Nat.le_refl _) _⟩

theorem splice_drop {α : Type} (L : List α) (off : Nat) (cs : List α) (h : off ≤ L.length) : (splice L off cs).drop off = cs ++ L.drop (off + cs.length) := by
  unfold splice
  have e : (L.take off).length = off := by rw [List.length_take]; omega
  conv => lhs; arg 1; rw [← e]
  rw [List.drop_left]
theorem size33 : (Try.prog.info? 33).map (·.size) = some 3 := by
  obtain ⟨i0, hi, _, hz1, _⟩ := info_parts Try.info33
  rw [hi, Option.map_some, hz1]

set_option maxHeartbeats 2000000 in
set_option maxRecDepth 100000 in
/-- Resolve of a path that follows a block. -/
theorem rs_some (rs : List (List Tm)) (B : Nat) (pa : Addr) (a : Option Addr) (m c N : Nat) (w : World) (h : Ch w B rs (some pa) a m) (hN : tot rs = N) (ht : N ≤ 32768) :
    Calls Try.prog 8 #[.agg #[.pointer (some pa), .slice a m c]] w fun e w' => ∃ X, e = .returned (.slice (some ⟨X, 0, none⟩) N N) ∧ w.heap.size ≤ X ∧ w'.heap[X]? = some (.cells (cellsOf rs.reverse.flatten).toArray 33 (0, 0)) ∧ Below w.heap.size w w' := by
  have hbA : Below w.heap.size w (w.alloc (.cells #[.pointer (some pa), .slice a m c] 28)) := (Below.refl _ _).alloc (Nat.le_refl _) _
  have hlen := len_any rs B (some pa) a m c _ (h.below hbA) (by omega)
  rw [hN] at hlen
  have HLEN := hid hlen
  have HNN := hid hN
  clear hlen hN
  have vw : VarW (w.alloc (.cells #[.pointer (some pa), .slice a m c] 28)) w.heap.size (some pa) a m c := ⟨by simp [go_sem], by simp [go_sem], by simp [go_sem], by simp [go_sem]⟩
  have hzA : w.heap.size + 1 ≤ (w.alloc (.cells #[.pointer (some pa), .slice a m c] 28)).heap.size := by simp
  go_enter Try.func8, Try.ntmps8
  go_wp2_with (go_at_call 11; refine HLEN.out.mono ?_; rintro e w1 ⟨rfl, hb1⟩; have hmk := mk26 N (by omega) w1)
  have hz1 := hb1.size
  have hbw1 : Below w.heap.size w w1 := hbA.trans (hb1.mono (by omega))
  have hrow : (w1.alloc (.cells (madeCells #[.string ⟨#[]⟩, .int .i64 0, .bool false] (N * 3)) 33)).heap[w1.heap.size]? = some (.cells (madeCells #[.string ⟨#[]⟩, .int .i64 0, .bool false] (N * 3)) 33 (0, 0)) := heap_alloc_new w1 _
  have hb2 : Below w1.heap.size w1 (w1.alloc (.cells (madeCells #[.string ⟨#[]⟩, .int .i64 0, .bool false] (N * 3)) 33)) := (Below.refl _ _).alloc (Nat.le_refl _) _
  have hX2 : w1.heap.size < (w1.alloc (.cells (madeCells #[.string ⟨#[]⟩, .int .i64 0, .bool false] (N * 3)) 33)).heap.size := by simp
  have vw2 := (vw.below hb1 (by omega)).below hb2 (by omega)
  obtain ⟨cur0, hcur0, hcl0⟩ : ∃ cur0 : List Value, madeCells #[.string ⟨#[]⟩, .int .i64 0, .bool false] (N * 3) = cur0.toArray ∧ cur0.length = N * 3 := ⟨(madeCells #[.string ⟨#[]⟩, .int .i64 0, .bool false] (N * 3)).toList, by simp, by simp [size_madeCells]⟩
  have hrow2 := hrow
  conv at hrow2 => rhs; rw [hcur0]
  generalize (w1.alloc (.cells (madeCells #[.string ⟨#[]⟩, .int .i64 0, .bool false] (N * 3)) 33)) = w2 at hrow2 hb2 hX2 vw2 ⊢
  have hbw2 : Below w.heap.size w w2 := hbw1.trans (hb2.mono (by omega))
  have hXH : w.heap.size < w1.heap.size := by omega
  generalize w1.heap.size = X at hrow2 hX2 hXH ⊢
  have HCL0 := hid hcl0
  have HR2 := hid hrow2
  have HVW2 := hid vw2
  clear hrow hcur0 hcl0 hrow2 vw2 vw hmk HLEN hbA hzA hbw1 hb1 hb2
  go_loopw [4] (fun ve wr => ∃ (qs : List (List Tm)) (dn : List Tm) (cur : List Value) (p a : Option Addr) (m c t : Nat), ve = .int .i64 t ∧ VarW wr w.heap.size p a m c ∧ Ch w B qs p a m ∧ Hid (wr.heap[X]? = some (.cells cur.toArray 33 (0, 0))) ∧ Hid (cur.length = N * 3) ∧ Hid (tot qs = t) ∧ Hid (t + dn.length = N) ∧ Hid (cur.drop (t * 3) = cellsOf dn) ∧ Hid (qs.reverse.flatten ++ dn = rs.reverse.flatten) ∧ Below w.heap.size w wr ∧ X < wr.heap.size) (fun _ wr => ptr wr w.heap.size)
  case atStart =>
    refine ⟨rs, [], cur0, some pa, a, m, c, N, rfl, HVW2.out, h, HR2, HCL0, HNN, hid (by simp), hid ?_, hid (by simp), hbw2, hX2⟩
    rw [List.drop_eq_nil_of_le (by rw [HCL0.out]; omega)]
    rfl
  case round =>
    clear HVW2 HR2 HCL0 HNN hbw2 hX2 h
    obtain ⟨qs, dn, cur, p, a, m, c, t, rfl, vB, hch, HROW, HCL, HTQ, HTD, HDR, HFL, hbr, hXr⟩ := hrel
    obtain ⟨ts, r, hc, e1, e2⟩ := hch.cons
    rw [tot_cons] at e1
    have HE2 := hid e2
    obtain ⟨hsg, hor⟩ := hc
    have hml := hsg.1
    obtain ⟨t1, ht1⟩ : ∃ t1, tot r = t1 := ⟨_, rfl⟩
    have htt : t = t1 + m := by have := HTQ.out; omega
    have hNt : t1 + m + dn.length = N := by have := HTD.out; omega
    subst htt
    have HT1 := hid ht1
    have HML := hid hml
    have HPOS : Hid (0 < (cellsOf ts).length → ∃ ad, a = some ad ∧ ∀ j v, (cellsOf ts)[j]? = some v → wr.drew.cell? (ad.add j) = some v) := hid (fun h0 => by
      rw [cellsOf_length] at h0
      rcases hsg.2 with h1 | ⟨b, ha, hB, htm⟩
      · omega
      · refine ⟨_, ha, fun j v hv => ?_⟩
        have hcell := flat_of_tms htm j v hv
        rw [WideShapes.add_plain]
        exact (hbr.drew.cell (p := ⟨b, 0 + j, none⟩) (World.block_lt_of_cell? w _ hcell)).trans hcell)
    have hdn : t1 + m ≤ N := by omega
    have HND := hid hNt
    have hfit : t1 * 3 + (cellsOf ts).length ≤ cur.length := by rw [cellsOf_length, HCL.out, ← HML.out]; omega
    have HFIT := hid hfit
    have HCN : Hid ((cellsOf ts).length = Nat.min m (N - t1) * 3) := by
      show _ = _
      have hmm : Nat.min m (N - t1) = m := Nat.min_eq_left (by omega)
      rw [cellsOf_length, ← HML.out, hmm]
    have HDR2 : Hid ((splice cur (t1 * 3) (cellsOf ts)).drop (t1 * 3) = cellsOf (ts ++ dn)) := by
      show _ = _
      rw [splice_drop _ _ _ (by omega), cellsOf_append, cellsOf_length, ← HML.out, ← HDR.out]
      congr 2
      omega
    have HCL2 : Hid ((splice cur (t1 * 3) (cellsOf ts)).length = N * 3) := (length_splice _ _ _ hfit).trans HCL.out
    have HFL2 : Hid (r.reverse.flatten ++ (ts ++ dn) = rs.reverse.flatten) := by
      show _ = _
      rw [← HFL.out, ← HE2.out]
      simp
    obtain ⟨v0, v1, v2, v3⟩ := vB
    have i1 : (0 : Int) ≤ (t1 : Int) := by omega
    have i2 : (t1 : Int) ≤ (N : Int) := by omega
    clear hch hml hNt hfit e1 e2 ht1 HTQ HTD HDR HFL HCL HE2
    have hrw : wr.drew.heap[X]? = some (.cells cur.toArray 33 (0, 0)) := HROW.out
    have HRW := hid hrw
    clear hrw
    have hbd : Below X wr wr.drew := (Below.refl _ _).drew
    by_cases hNe : N = t1
    · have hm0 : m = 0 := by omega
      have HZ : Hid ((cellsOf ts).length = 0) := by
        show _ = _
        rw [cellsOf_length, ← HML.out, hm0]
      subst hNe
      subst hm0
      rcases hor with ⟨hr0, rfl⟩ | ⟨g, pp, pa2, pn, pc, rfl, hB, hx, c2, c3, c4, hcr⟩
      · have HR0 := hid hr0
        clear hr0
        go_wp2
        go_region_law (refine step_copy3 rfl (.tmp 22) (.tmp 24) 26 26 rfl 33 Try.underlying26 size33 (some ⟨X, 0, none⟩) a (N - N) (N - N) 0 c (by simp [Act.eval]) (by simp [Act.eval]) X (N * 3) cur 33 HRW.out (cellsOf ts) HCN.out (fun h0 => absurd h0 (by have := HZ.out; omega)) HFIT.out (cellsOf_one ts) X wr hbd (Nat.le_refl _) ?_; intro vv w4 hg4 hb4)
        have vB4 := (VarW.mk v0 v1 v2 v3).below hb4 hXH
        obtain ⟨x0, x1, x2, x3⟩ := vB4
        have hb4w : Below w.heap.size w w4 := hbr.trans (hb4.mono (by omega))
        clear hb4 v0 v1 v2 v3
        go_wp2
        go_ret
        refine ⟨X, rfl, by omega, ?_, hb4w⟩
        have e0 := HR0.out
        subst e0
        have et : N = 0 := HT1.out.symm
        have e1 := HDR2.out
        have e2 := HFL2.out
        rw [hg4.out]
        subst et
        simp only [Nat.zero_mul, List.drop_zero] at e1
        simp only [List.reverse_nil, List.flatten_nil, List.nil_append] at e2
        rw [e2] at e1
        rw [Nat.zero_mul, e1]
      · have hgw : g < w.heap.size := World.block_lt_of_cell? w ⟨g, 2, none⟩ c2
        have _ng : ¬ g = w.heap.size := by omega
        go_wp2
        go_region_law (refine step_copy3 rfl (.tmp 22) (.tmp 24) 26 26 rfl 33 Try.underlying26 size33 (some ⟨X, 0, none⟩) a (N - N) (N - N) 0 c (by simp [Act.eval]) (by simp [Act.eval]) X (N * 3) cur 33 HRW.out (cellsOf ts) HCN.out (fun h0 => absurd h0 (by have := HZ.out; omega)) HFIT.out (cellsOf_one ts) X wr hbd (Nat.le_refl _) ?_; intro vv w4 hg4 hb4)
        have vB4 := (VarW.mk v0 v1 v2 v3).below hb4 hXH
        have hb4w : Below w.heap.size w w4 := hbr.trans (hb4.mono (by omega))
        have d2 : w4.cell? ⟨g, 2, none⟩ = some (.pointer pp) := (hb4w.cell (p := ⟨g, 2, none⟩) hgw).trans c2
        have d3 : w4.cell? ⟨g, 3, none⟩ = some (.slice pa2 pn pc) := (hb4w.cell (p := ⟨g, 3, none⟩) hgw).trans c3
        have HPUT := hid (vB4.put pp pa2 pn pc)
        have HV0 := hid v0
        have HBW : Hid (Below w.heap.size w ((w4.setCell ⟨w.heap.size, 0, none⟩ (.pointer pp)).setCell ⟨w.heap.size, 1, none⟩ (.slice pa2 pn pc))) := (hb4w.setCell (p := ⟨w.heap.size, 0, none⟩) (Nat.le_refl _) _).setCell (p := ⟨w.heap.size, 1, none⟩) (Nat.le_refl _) _
        have HRX : Hid (((w4.setCell ⟨w.heap.size, 0, none⟩ (.pointer pp)).setCell ⟨w.heap.size, 1, none⟩ (.slice pa2 pn pc)).heap[X]? = some (.cells (splice cur (N * 3) (cellsOf ts)).toArray 33 (0, 0))) := by
          show _ = _
          rw [Below.heap_setCell _ _ _ _ (by show X ≠ w.heap.size; omega), Below.heap_setCell _ _ _ _ (by show X ≠ w.heap.size; omega)]
          exact hg4.out
        have hX4 : X < w4.heap.size := by have := hb4.size; omega
        have HND2 : Hid (N + (ts ++ dn).length = N) := by
          show _ = _
          rw [List.length_append, ← HML.out]
          have := HND.out
          omega
        obtain ⟨x0, x1, x2, x3⟩ := vB4
        clear hb4 v0 v1 v2 v3 c2 c3 c4 hg4
        go_wp2
        go_roundw
        case rel => exact ⟨r, ts ++ dn, splice cur (N * 3) (cellsOf ts), pp, pa2, pn, pc, N, rfl, HPUT.out, hcr, HRX, HCL2, HT1, HND2, HDR2, HFL2, HBW.out, by simpa [World.setCell] using hX4⟩
        case measure => exact ptr_lt HV0.out HPUT.out.c0 hx
    · have hne : ¬ N = t1 := hNe
      rcases hor with ⟨hr0, rfl⟩ | ⟨g, pp, pa2, pn, pc, rfl, hB, hx, c2, c3, c4, hcr⟩
      · have HR0 := hid hr0
        clear hr0
        go_wp2
        go_region_law (refine step_copy3 rfl (.tmp 22) (.tmp 24) 26 26 rfl 33 Try.underlying26 size33 (some ⟨X, t1 * 3, none⟩) a (N - t1) (N - t1) m c (by simp [Act.eval]) (by simp [Act.eval]) X (t1 * 3) cur 33 HRW.out (cellsOf ts) HCN.out (fun h0 => ⟨rfl, HPOS.out h0⟩) HFIT.out (cellsOf_one ts) X wr hbd (Nat.le_refl _) ?_; intro vv w4 hg4 hb4)
        have vB4 := (VarW.mk v0 v1 v2 v3).below hb4 hXH
        obtain ⟨x0, x1, x2, x3⟩ := vB4
        have hb4w : Below w.heap.size w w4 := hbr.trans (hb4.mono (by omega))
        clear hb4 v0 v1 v2 v3
        go_wp2
        go_ret
        refine ⟨X, rfl, by omega, ?_, hb4w⟩
        have e0 := HR0.out
        subst e0
        have et : t1 = 0 := HT1.out.symm
        have e1 := HDR2.out
        have e2 := HFL2.out
        rw [hg4.out]
        subst et
        simp only [Nat.zero_mul, List.drop_zero] at e1
        simp only [List.reverse_nil, List.flatten_nil, List.nil_append] at e2
        rw [e2] at e1
        rw [Nat.zero_mul, e1]
      · have hgw : g < w.heap.size := World.block_lt_of_cell? w ⟨g, 2, none⟩ c2
        have _ng : ¬ g = w.heap.size := by omega
        go_wp2
        go_region_law (refine step_copy3 rfl (.tmp 22) (.tmp 24) 26 26 rfl 33 Try.underlying26 size33 (some ⟨X, t1 * 3, none⟩) a (N - t1) (N - t1) m c (by simp [Act.eval]) (by simp [Act.eval]) X (t1 * 3) cur 33 HRW.out (cellsOf ts) HCN.out (fun h0 => ⟨rfl, HPOS.out h0⟩) HFIT.out (cellsOf_one ts) X wr hbd (Nat.le_refl _) ?_; intro vv w4 hg4 hb4)
        have vB4 := (VarW.mk v0 v1 v2 v3).below hb4 hXH
        have hb4w : Below w.heap.size w w4 := hbr.trans (hb4.mono (by omega))
        have d2 : w4.cell? ⟨g, 2, none⟩ = some (.pointer pp) := (hb4w.cell (p := ⟨g, 2, none⟩) hgw).trans c2
        have d3 : w4.cell? ⟨g, 3, none⟩ = some (.slice pa2 pn pc) := (hb4w.cell (p := ⟨g, 3, none⟩) hgw).trans c3
        have HPUT := hid (vB4.put pp pa2 pn pc)
        have HV0 := hid v0
        have HBW : Hid (Below w.heap.size w ((w4.setCell ⟨w.heap.size, 0, none⟩ (.pointer pp)).setCell ⟨w.heap.size, 1, none⟩ (.slice pa2 pn pc))) := (hb4w.setCell (p := ⟨w.heap.size, 0, none⟩) (Nat.le_refl _) _).setCell (p := ⟨w.heap.size, 1, none⟩) (Nat.le_refl _) _
        have HRX : Hid (((w4.setCell ⟨w.heap.size, 0, none⟩ (.pointer pp)).setCell ⟨w.heap.size, 1, none⟩ (.slice pa2 pn pc)).heap[X]? = some (.cells (splice cur (t1 * 3) (cellsOf ts)).toArray 33 (0, 0))) := by
          show _ = _
          rw [Below.heap_setCell _ _ _ _ (by show X ≠ w.heap.size; omega), Below.heap_setCell _ _ _ _ (by show X ≠ w.heap.size; omega)]
          exact hg4.out
        have hX4 : X < w4.heap.size := by have := hb4.size; omega
        have HND2 : Hid (t1 + (ts ++ dn).length = N) := by
          show _ = _
          rw [List.length_append, ← HML.out]
          have := HND.out
          omega
        obtain ⟨x0, x1, x2, x3⟩ := vB4
        clear hb4 v0 v1 v2 v3 c2 c3 c4 hg4
        go_wp2
        go_roundw
        case rel => exact ⟨r, ts ++ dn, splice cur (t1 * 3) (cellsOf ts), pp, pa2, pn, pc, t1, rfl, HPUT.out, hcr, HRX, HCL2, HT1, HND2, HDR2, HFL2, HBW.out, by simpa [World.setCell] using hX4⟩
        case measure => exact ptr_lt HV0.out HPUT.out.c0 hx

end Go.Proofs.Qxb6632608a
