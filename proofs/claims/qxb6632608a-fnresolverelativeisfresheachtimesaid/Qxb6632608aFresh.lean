/- FnResolveRelativeIsFreshEachTime: the walk. -/
import Derived.Test.Qxb6632608aMain
namespace Go.Proofs.Qxb6632608a
open Go.RowKit
attribute [local go_sem ↓] Go.wp_at_zero Go.wp_at_succ

/-- The row that is written over: N terms from block X's head on; those from k on stand as they were. -/
structure Ovr (w : World) (X N k : Nat) (ts : List Tm) : Prop where
  some : ∀ j, j < N * 3 → (w.cell? ⟨X, j, none⟩).isSome = true
  froz : ∀ j, w.frozen? ⟨X, j, none⟩ = false
  left : ∀ i (hi : i < ts.length), k ≤ i → TmAt w X (i * 3) ts[i]
theorem Ovr.put {w : World} {X N k : Nat} {ts : List Tm} (h : Ovr w X N k ts) (hk : k < N) (u0 u1 u2 : Value) : Ovr (w.setCells X (k * 3) [u0, u1, u2]) X N (k + 1) ts := by
  have hin := World.cell?_setCells_in X [u0, u1, u2] (k * 3) w (fun j hj => h.some _ (by simp at hj; omega))
  have hout := fun (q : Nat) (hq : q < k * 3 ∨ k * 3 + 3 ≤ q) => World.cell?_setCells_out X [u0, u1, u2] (k * 3) w ⟨X, q, none⟩ (fun _ _ => by simpa using hq)
  refine ⟨fun j hj => ?_, fun j => ?_, fun i hi hik => ?_⟩
  · by_cases hq : j < k * 3 ∨ k * 3 + 3 ≤ j
    · rw [hout j hq]; exact h.some j hj
    · have := hin (j - k * 3) (by simp; omega)
      rw [show k * 3 + (j - k * 3) = j by omega] at this
      rw [this]
      rfl
  · rw [World.frozen?_setCells]; exact h.froz j
  · obtain ⟨b0, b1, b2⟩ := h.left i hi (by omega)
    exact ⟨(hout _ (by omega)).trans b0, (hout _ (by omega)).trans b1, (hout _ (by omega)).trans b2⟩
theorem Ovr.below {w w' : World} {X N k : Nat} {ts : List Tm} (h : Ovr w X N k ts) (hb : Below w.heap.size w w') (hX : X < w.heap.size) : Ovr w' X N k ts :=
  ⟨fun j hj => by rw [hb.cell (p := ⟨X, j, none⟩) hX]; exact h.some j hj, fun j => (hb.frozen (p := ⟨X, j, none⟩) hX).trans (h.froz j), fun i hi hik => (h.left i hi hik).below hb hX⟩
theorem ovr_new {w : World} {X N : Nat} {ts : List Tm} {t : TypeId} (h : w.heap[X]? = some (.cells (cellsOf ts).toArray t (0, 0))) (hN : ts.length = N) : Ovr w X N 0 ts := by
  refine ⟨fun j hj => ?_, fun j => ?_, fun i hi _ => ?_⟩
  · rw [cell_of_row w X j _ t (0, 0) h]
    have hl : j < (cellsOf ts).length := by rw [cellsOf_length]; omega
    simp [hl]
  · unfold World.frozen?
    show (match w.heap[X]? with | .some (.cells _ _ (lo, hi)) => decide (lo ≤ j) && decide (j < hi) | _ => false) = false
    rw [h]
    simp
  · have := tms_of_row h i hi
    rwa [Nat.zero_add] at this

set_option maxHeartbeats 2000000 in
set_option maxRecDepth 100000 in
/-- FnResolveRelativeIsFreshEachTime. -/
theorem fresh_any (ss : List Sg) (a : Option Addr) (n cap : Nat) (w : World) (h : In w a n ss) :
    Calls Try.prog 4 #[.slice a n cap] w fun e w' => e = .returned (.bool true) ∧ Below w.heap.size w w' := by
  have hml := h.2.1
  unfold maxLen at hml
  have HN := hid h.1
  obtain ⟨N, hN⟩ : ∃ N, (joined ss).length = N := ⟨_, rfl⟩
  have HJN := hid hN
  clear hN
  go_enter Try.func4, Try.ntmps4
  go_wp2_with (first
    | (go_at_call 10; refine (zb10_any ss a n cap w h).mono ?_; rintro e w' ⟨t, rfl, rfl, ht⟩; cases t <;> (first | (replace ht := ht rfl) | skip))
    | (go_at_call 6; refine (zs_any ss a n cap w h ht.1 ht.2).mono ?_; rintro e w' ⟨t, rfl, rfl, hj⟩; cases t <;> (first | (replace hj := hj rfl; rw [HJN.out] at hj) | skip))
    | (go_at_call 7; refine (bd_any ss a n cap w h (by omega) ht.2 (by rw [HJN.out]; exact hj)).mono ?_; rintro e w1 ⟨p, a1, m, c, rfl, hch, hb1⟩
       have hbA : Below w1.heap.size w1 (w1.alloc (.cells #[.pointer p, .slice a1 m c] 28)) := (Below.refl _ _).alloc (Nat.le_refl _) _
       obtain ⟨pa, rfl⟩ : ∃ pa, p = some pa := by
         have hl : 2 ≤ (rsOf ss).length := by have := HN.out; simp [rsOf]; omega
         match hrs : rsOf ss, hch, hl with
         | ts :: r, ⟨_, h2⟩, hl =>
           rcases h2 with ⟨h0, _⟩ | ⟨g, _, _, _, _, e, _⟩
           · subst h0
             simp at hl
           · exact ⟨_, e⟩
       have HRS := hid (rs_some (rsOf ss) _ pa a1 m c N _ (hch.below hbA) (by rw [tot_rsOf]; exact HJN.out) hj))
    | (go_at_call 8; refine HRS.out.mono ?_; rintro e w2 ⟨X, rfl, hX, hrow, hb2⟩))
  all_goals first
    | (go_ret; exact ⟨rfl, Below.refl _ _⟩)
    | skip
  have z1 := hb1.size
  have hchA := hch.below hbA
  have vwA : VarW (w1.alloc (.cells #[.pointer (some pa), .slice a1 m c] 28)) w1.heap.size (some pa) a1 m c := ⟨by simp [go_sem], by simp [go_sem], by simp [go_sem], by simp [go_sem]⟩
  have hbwA : Below w.heap.size w (w1.alloc (.cells #[.pointer (some pa), .slice a1 m c] 28)) := hb1.trans (hbA.mono z1)
  have zA : w1.heap.size < (w1.alloc (.cells #[.pointer (some pa), .slice a1 m c] 28)).heap.size := by simp
  have hX2 : X < w2.heap.size := (Array.getElem?_eq_some_iff.1 hrow).1
  rw [rsOf_flat] at hrow
  have hov := ovr_new hrow HJN.out
  generalize (w1.alloc (.cells #[.pointer (some pa), .slice a1 m c] 28)) = wA at hX hb2 hchA vwA hbwA zA
  have HCH := hid hchA
  have HVW := hid vwA
  have HKS : Hid (∀ t ∈ joined ss, t.key.size ≤ 1048576) := hid (fun t hti => by
    obtain ⟨s, hs, hst⟩ := List.mem_flatMap.1 hti
    exact (ht.2 s hs).2 t hst)
  clear hchA vwA HRS hbA hch hrow
  go_loopw [5] (fun vi wr => ∃ k : Nat, k ≤ N ∧ vi = .int .i64 k ∧ Ovr wr X N k (joined ss) ∧ Below wA.heap.size wA wr ∧ X < wr.heap.size) (fun vi _ => N - (intOf vi).toNat)
  case atStart => exact ⟨0, Nat.zero_le _, rfl, hov, hb2, hX2⟩
  case round =>
    clear hov hb2 hX2
    obtain ⟨k, hk, rfl, hov, hbr, hXr⟩ := hrel
    by_cases hlt : k < N
    · have hkj : k < (joined ss).length := by have := HJN.out; omega
      obtain ⟨c0, c1, c2⟩ := hov.left k hkj (Nat.le_refl _)
      have hks := HKS.out _ (List.getElem_mem hkj)
      generalize (joined ss)[k] = tm at c0 c1 c2 hks
      have hks2 : ¬ 9223372036854775807 < tm.key.size + 1 := by omega
      have hbB : Below wr.heap.size wr (wr.alloc (.cells #[.string tm.key, .int .i64 tm.idx, .bool tm.isx] 33)) := (Below.refl _ _).alloc (Nat.le_refl _) _
      have hovB := hov.below hbB hXr
      have d0 := (hbB.cell (p := ⟨X, k * 3, none⟩) hXr).trans c0
      have d1 := (hbB.cell (p := ⟨X, k * 3 + 1, none⟩) hXr).trans c1
      have d2 := (hbB.cell (p := ⟨X, k * 3 + 2, none⟩) hXr).trans c2
      have f0 := hov.froz (k * 3)
      have f1 := hov.froz (k * 3 + 1)
      have f2 := hov.froz (k * 3 + 2)
      have _nx : ¬ X = wr.heap.size := by omega
      have i1 : (0 : Int) ≤ (k : Int) := by omega
      have i2 : (k : Int) < (N : Int) := by omega
      have hpp : ∀ u0 u1 u2, Ovr (((wr.setCell ⟨X, k * 3, none⟩ u0).setCell ⟨X, k * 3 + 1, none⟩ u1).setCell ⟨X, k * 3 + 2, none⟩ u2) X N (k + 1) (joined ss) := fun u0 u1 u2 => by
        have hp := hov.put hlt u0 u1 u2
        exact ⟨hp.some, hp.froz, fun i hi hik => ⟨(hp.left i hi hik).c0, (hp.left i hi hik).c1, (hp.left i hi hik).c2⟩⟩
      have HPP := hid hpp
      have HBP : Hid (∀ u0 u1 u2, Below wA.heap.size wA (((wr.setCell ⟨X, k * 3, none⟩ u0).setCell ⟨X, k * 3 + 1, none⟩ u1).setCell ⟨X, k * 3 + 2, none⟩ u2)) := hid (fun u0 u1 u2 => ((hbr.setCell (p := ⟨X, k * 3, none⟩) hX u0).setCell (p := ⟨X, k * 3 + 1, none⟩) hX u1).setCell (p := ⟨X, k * 3 + 2, none⟩) hX u2)
      clear hpp
      have zr := hbr.size
      go_wp2
      go_roundw
      case rel => exact ⟨k + 1, by omega, by go_num, (HPP.out _ _ _).below ((Below.refl _ _).alloc (Nat.le_refl _) _) (by simpa [World.setCell] using hXr), (HBP.out _ _ _).alloc (by simpa [World.setCell] using zr) _, by simp [World.setCell]; omega⟩
      case measure => simp [intOf]; omega
    · have ek : k = N := by omega
      subst ek
      have hch3 := HCH.out.below hbr
      have vw3 := HVW.out.below hbr zA
      obtain ⟨c0, c1, _, _⟩ := vw3
      have HRS2 := hid (rs_some (rsOf ss) _ pa a1 m c k wr hch3 (by rw [tot_rsOf]; exact HJN.out) hj)
      have zr := hbr.size
      have zw := hbwA.size
      go_wp2_with (first
        | (go_at_call 8; refine HRS2.out.mono ?_; rintro e w4 ⟨X4, rfl, hX4, hrow4, hb4⟩
           have hch4 := hch3.below hb4
           have d0 := (hb4.cell (p := ⟨w1.heap.size, 0, none⟩) (by simp; omega)).trans c0
           have d1 := (hb4.cell (p := ⟨w1.heap.size, 1, none⟩) (by simp; omega)).trans c1
           have hb4w : Below w.heap.size w w4 := (hbwA.trans (hbr.mono zw)).trans (hb4.mono (by omega))
           rw [rsOf_flat] at hrow4
           have hsg4 : Seg w4 (some ⟨X4, 0, none⟩) k (joined ss) := ⟨HJN.out.symm, Or.inr ⟨X4, 0, rfl, tms_of_row hrow4⟩⟩
           have HLN := hid (len_any (rsOf ss) _ (some pa) a1 m c w4 hch4 (by rw [tot_rsOf, HJN.out]; omega))
           have HT : Hid (tot (rsOf ss) = k) := by show _ = _; rw [tot_rsOf]; exact HJN.out
           clear hrow4 hch4 HRS2)
        | (go_at_call 11; refine HLN.out.mono ?_; rintro e w5 ⟨rfl, hb5⟩; rw [HT.out])
        | (go_at_call 9; refine (ct_any ss a n cap (some ⟨X4, 0, none⟩) k k w5 (h.below (hb4w.trans (hb5.mono hb4w.size))) (by omega) (hsg4.below hb5) hj).mono ?_; rintro e w6 ⟨rfl, hb6⟩))
      go_ret
      exact ⟨rfl, (hb4w.trans (hb5.mono hb4w.size)).trans (hb6.mono (by have := hb4w.size; have := hb5.size; omega))⟩

end Go.Proofs.Qxb6632608a
