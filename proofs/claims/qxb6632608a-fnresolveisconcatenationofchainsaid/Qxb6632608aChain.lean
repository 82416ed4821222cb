/- The chain of at blocks; ZZnewBlock, Len: the walks. -/
import Derived.Test.Qxb6632608aBase
namespace Go.Proofs.Qxb6632608a
open Go.RowKit
attribute [local go_sem ↓] Go.wp_at_zero Go.wp_at_succ

/-- How many terms a chain (the last segment first) stands for. -/
def tot (rs : List (List Tm)) : Nat := rs.flatten.length
theorem tot_cons (ts : List Tm) (rs : List (List Tm)) : tot (ts :: rs) = ts.length + tot rs := by simp [tot]
/-- A written path: the pointer p to its block, the slice of its own terms; rs: its segments, the last first. All from block B on. -/
def Ch (w : World) (B : Nat) : List (List Tm) → Option Addr → Option Addr → Nat → Prop
  | [], p, _, n => p = none ∧ n = 0
  | ts :: r, p, a, n => SegB w B a n ts ∧ ((r = [] ∧ p = none) ∨ ∃ g pp pa pn pc, p = some ⟨g, 0, none⟩ ∧ B ≤ g ∧ (∀ x, pp = some x → x.block < g) ∧
      w.cell? ⟨g, 2, none⟩ = some (.pointer pp) ∧ w.cell? ⟨g, 3, none⟩ = some (.slice pa pn pc) ∧ w.cell? ⟨g, 4, none⟩ = some (.int .i64 (tot r : Nat)) ∧ Ch w B r pp pa pn)
theorem Ch.onward {B : Nat} {w w' : World} (hf : Onw B w w') : ∀ (rs : List (List Tm)) {p a : Option Addr} {n : Nat}, Ch w B rs p a n → Ch w' B rs p a n
  | [], _, _, _, h => h
  | _ :: r, _, _, _, ⟨h1, h2⟩ => ⟨h1.onward hf, orR h2 fun ⟨g, pp, pa, pn, pc, e, hB, hx, c2, c3, c4, hr⟩ => ⟨g, pp, pa, pn, pc, e, hB, hx, hf.cell (p := ⟨g, 2, none⟩) hB c2, hf.cell (p := ⟨g, 3, none⟩) hB c3, hf.cell (p := ⟨g, 4, none⟩) hB c4, Ch.onward hf r hr⟩⟩
theorem Ch.below {B : Nat} {w w' : World} {rs : List (List Tm)} {p a : Option Addr} {n : Nat} (h : Ch w B rs p a n) (hb : Below w.heap.size w w') : Ch w' B rs p a n := Ch.onward (Onw.of_below hb) rs h
theorem Ch.lt {B : Nat} {w : World} {rs : List (List Tm)} {p a : Option Addr} {n : Nat} (h : Ch w B rs p a n) : ∀ x, p = some x → x.block < w.heap.size := by
  intro x hx
  match rs, h with
  | [], ⟨h0, _⟩ => rw [hx] at h0; cases h0
  | _ :: _, ⟨_, h2⟩ =>
    rcases h2 with ⟨_, h0⟩ | ⟨g, pp, pa, pn, pc, e, hB, _, c2, _⟩
    · rw [hx] at h0; cases h0
    · rw [hx] at e
      cases e
      exact World.block_lt_of_cell? w ⟨g, 2, none⟩ c2

set_option maxHeartbeats 1000000 in
set_option maxRecDepth 100000 in
/-- ZZnewBlock. -/
theorem nb_any (i k t : Int) (p a : Option Addr) (n c : Nat) (w : World) :
    Calls Try.prog 13 #[.agg #[.int .i64 i, .int .i64 k], .agg #[.pointer p, .slice a n c], .int .i64 t] w fun e w' => e = .returned (.pointer (some ⟨w.heap.size + 2, 0, none⟩)) ∧ Below w.heap.size w w' ∧
      w'.cell? ⟨w.heap.size + 2, 2, none⟩ = some (.pointer p) ∧ w'.cell? ⟨w.heap.size + 2, 3, none⟩ = some (.slice a n c) ∧ w'.cell? ⟨w.heap.size + 2, 4, none⟩ = some (.int .i64 t) := by
  go_enter Try.func13, Try.ntmps13
  go_wp2
  go_ret
  refine ⟨rfl, ?_, ?_, ?_, ?_⟩
  · exact (((Below.refl _ _).alloc (Nat.le_refl _) _).alloc (by simp) _).alloc (by simp; omega) _
  all_goals simp [go_sem]

set_option maxHeartbeats 1000000 in
set_option maxRecDepth 100000 in
theorem len_none (a : Option Addr) (n c : Nat) (w : World) :
    Calls Try.prog 11 #[.agg #[.pointer none, .slice a n c]] w fun e w' => e = .returned (.int .i64 n) ∧ Below w.heap.size w w' := by
  go_enter Try.func11, Try.ntmps11
  go_wp2
  go_ret
  exact ⟨rfl, (Below.refl _ _).alloc (Nat.le_refl _) _⟩

set_option maxHeartbeats 1000000 in
set_option maxRecDepth 100000 in
theorem len_some (g m : Nat) (a : Option Addr) (n c : Nat) (w : World) (h : w.cell? ⟨g, 4, none⟩ = some (.int .i64 (m : Nat))) (h1 : m ≤ 1048576) (h2 : n ≤ 1048576) :
    Calls Try.prog 11 #[.agg #[.pointer (some ⟨g, 0, none⟩), .slice a n c]] w fun e w' => e = .returned (.int .i64 (m + n : Nat)) ∧ Below w.heap.size w w' := by
  have hg := World.block_lt_of_cell? w _ h
  have hb0 : Below w.heap.size w (w.alloc (.cells #[.pointer (some ⟨g, 0, none⟩), .slice a n c] 28)) := (Below.refl _ _).alloc (Nat.le_refl _) _
  have h4 : (w.alloc (.cells #[.pointer (some ⟨g, 0, none⟩), .slice a n c] 28)).cell? ⟨g, 4, none⟩ = some (.int .i64 (m : Nat)) := (hb0.cell (p := ⟨g, 4, none⟩) hg).trans h
  have q1 : IntKind.i64.wrap ((m : Int) + (n : Int)) = (m : Int) + (n : Int) := wrap_small _ (by omega) (by omega)
  go_enter Try.func11, Try.ntmps11
  go_wp2
  go_region_held3 (fun w' => w'.cell? ⟨g, 4, none⟩ = some (.int .i64 (m : Nat)) ∧ w'.cell? ⟨w.heap.size, 0, none⟩ = some (.pointer (some ⟨g, 0, none⟩)) ∧ w'.cell? ⟨w.heap.size, 1, none⟩ = some (.slice a n c)) (go_keep) (fail)
  go_wp2
  go_ret
  exact ⟨by simp, hb0.drew⟩

/-- Len. -/
theorem len_any (rs : List (List Tm)) (B : Nat) (p a : Option Addr) (n c : Nat) (w : World) (h : Ch w B rs p a n) (ht : tot rs ≤ 1048576) :
    Calls Try.prog 11 #[.agg #[.pointer p, .slice a n c]] w fun e w' => e = .returned (.int .i64 (tot rs : Nat)) ∧ Below w.heap.size w w' := by
  match rs, h, ht with
  | [], ⟨hp, hn⟩, _ =>
    subst hp
    subst hn
    exact len_none a 0 c w
  | ts :: r, ⟨h1, h2⟩, ht =>
    rw [tot_cons] at ht ⊢
    have hn := h1.1
    rcases h2 with ⟨rfl, rfl⟩ | ⟨g, pp, pa, pn, pc, rfl, hB, _, c2, c3, c4, hr⟩
    · have e : ts.length + tot [] = n := by simp [tot]; omega
      rw [e]
      exact len_none a n c w
    · have e : ts.length + tot r = tot r + n := by omega
      rw [e]
      exact len_some g (tot r) a n c w c4 (by omega) (by omega)

/-- The segments of a slice of segments, the last first. -/
def rsOf (ss : List Sg) : List (List Tm) := (ss.map (·.ts)).reverse
theorem rsOf_take_succ (ss : List Sg) (k : Nat) (hk : k < ss.length) : rsOf (ss.take (k + 1)) = ss[k].ts :: rsOf (ss.take k) := by
  unfold rsOf
  rw [List.take_succ_eq_append_getElem hk, List.map_append, List.reverse_append]
  rfl
theorem tot_rsOf (ss : List Sg) : tot (rsOf ss) = (joined ss).length := by
  simp [tot, rsOf, joined, List.length_flatten, List.flatMap, List.sum_reverse]
theorem joined_take_le (ss : List Sg) (k : Nat) : (joined (ss.take k)).length ≤ (joined ss).length := by
  have e : joined ss = joined (ss.take k) ++ joined (ss.drop k) := by
    unfold joined
    rw [← List.flatMap_append, List.take_append_drop]
  rw [e, List.length_append]
  omega

/-- A variable of type Written: its two cells. -/
structure VarW (w : World) (H : Nat) (p a : Option Addr) (m c : Nat) : Prop where
  c0 : w.cell? ⟨H, 0, none⟩ = some (.pointer p)
  c1 : w.cell? ⟨H, 1, none⟩ = some (.slice a m c)
  f0 : w.frozen? ⟨H, 0, none⟩ = false
  f1 : w.frozen? ⟨H, 1, none⟩ = false
theorem VarW.below {w w' : World} {H B : Nat} {p a : Option Addr} {m c : Nat} (h : VarW w H p a m c) (hb : Below B w w') (hlt : H < B) : VarW w' H p a m c :=
  ⟨(hb.cell (p := ⟨H, 0, none⟩) hlt).trans h.c0, (hb.cell (p := ⟨H, 1, none⟩) hlt).trans h.c1, (hb.frozen (p := ⟨H, 0, none⟩) hlt).trans h.f0, (hb.frozen (p := ⟨H, 1, none⟩) hlt).trans h.f1⟩
theorem VarW.lt {w : World} {H : Nat} {p a : Option Addr} {m c : Nat} (h : VarW w H p a m c) : H < w.heap.size := World.block_lt_of_cell? w ⟨H, 0, none⟩ h.c0

end Go.Proofs.Qxb6632608a
