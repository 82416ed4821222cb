/- FnResolveIsConcatenationOfChain: the walk. -/
import Derived.Test.Qxb6632608aByt
import Derived.Test.Qxb6632608aSiz
import Derived.Test.Qxb6632608aRes
import Derived.Test.Qxb6632608aCat
namespace Go.Proofs.Qxb6632608a
open Go.RowKit
attribute [local go_sem ↓] Go.wp_at_zero Go.wp_at_succ

theorem rsOf_flat (ss : List Sg) : (rsOf ss).reverse.flatten = joined ss := by
  simp [rsOf, joined, List.flatMap]

/-- Resolve. -/
theorem rs_any (rs : List (List Tm)) (B : Nat) (p a : Option Addr) (m c : Nat) (w : World) (h : Ch w B rs p a m) (ht : tot rs ≤ 32768) :
    Calls Try.prog 8 #[.agg #[.pointer p, .slice a m c]] w fun e w' => ∃ a' k c', e = .returned (.slice a' k c') ∧ Seg w' a' k rs.reverse.flatten ∧ k ≤ 32768 ∧ Below w.heap.size w w' := by
  cases p with
  | none =>
    refine (rs_none a m c w).mono ?_
    rintro e w' ⟨rfl, hb⟩
    refine ⟨a, m, c, rfl, ?_, ?_, hb⟩
    · match rs, h with
      | [], ⟨_, h2⟩ => exact ⟨h2, Or.inl h2⟩
      | ts :: r, ⟨h1, h2⟩ =>
        rcases h2 with ⟨rfl, _⟩ | ⟨g, pp, pa, pn, pc, e, _⟩
        · simpa using h1.seg.below hb
        · cases e
    · match rs, h with
      | [], ⟨_, h2⟩ => omega
      | ts :: r, ⟨h1, _⟩ =>
        rw [tot_cons] at ht
        have := h1.1
        omega
  | some pa =>
    refine (rs_some rs B pa a m c (tot rs) w h rfl ht).mono ?_
    rintro e w' ⟨X, rfl, hX, hrow, hb⟩
    refine ⟨_, _, _, rfl, ⟨?_, Or.inr ⟨X, 0, rfl, tms_of_row hrow⟩⟩, ht, hb⟩
    simp [tot, List.length_flatten, List.sum_reverse]

set_option maxHeartbeats 1000000 in
set_option maxRecDepth 100000 in
/-- FnResolveIsConcatenationOfChain. -/
theorem cat_any (ss : List Sg) (a : Option Addr) (n cap : Nat) (w : World) (h : In w a n ss) :
    Calls Try.prog 3 #[.slice a n cap] w fun e w' => e = .returned (.bool true) ∧ Below w.heap.size w w' := by
  have hml := h.2.1
  unfold maxLen at hml
  go_enter Try.func3, Try.ntmps3
  go_wp2_with (first
    | (go_at_call 5; refine (zb5_any ss a n cap w h).mono ?_; rintro e w' ⟨t, rfl, rfl, ht⟩; cases t <;> (first | (replace ht := ht rfl) | skip))
    | (go_at_call 6; refine (zs_any ss a n cap w h ht.1 ht.2).mono ?_; rintro e w' ⟨t, rfl, rfl, hj⟩; cases t <;> (first | (replace hj := hj rfl) | skip))
    | (go_at_call 7; refine (bd_any ss a n cap w h (by omega) ht.2 hj).mono ?_; rintro e w1 ⟨p, a1, m, c, rfl, hch, hb1⟩
       have hbA : Below w1.heap.size w1 (w1.alloc (.cells #[.pointer p, .slice a1 m c] 28)) := (Below.refl _ _).alloc (Nat.le_refl _) _
       have HRS := hid (rs_any (rsOf ss) _ p a1 m c _ (hch.below hbA) (by rw [tot_rsOf]; exact hj)))
    | (go_at_call 8; refine HRS.out.mono ?_; rintro e w2 ⟨a2, k, c2, rfl, hsg, hk, hb2⟩
       rw [rsOf_flat] at hsg
       have z1 := hb1.size
       have zA := hbA.size
       have hball : Below w.heap.size w w2 := (hb1.trans (hbA.mono z1)).trans (hb2.mono (by omega))
       have z2 := hball.size)
    | (go_at_call 9; refine (ct_any ss a n cap a2 k c2 w2 (h.below hball) (by omega) hsg hk).mono ?_; rintro e w3 ⟨rfl, hb3⟩))
  all_goals go_ret
  all_goals first
    | exact ⟨rfl, Below.refl _ _⟩
    | exact ⟨rfl, hball.trans (hb3.mono z2)⟩

end Go.Proofs.Qxb6632608a
