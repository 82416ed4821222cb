/- FnLastReplicatedAfterOneMore: the walk. -/
import Derived.Test.Qxb6632418aMain
namespace Go.Proofs.Qxb6632418a
open Go.RowKit Go.Maps Logs

set_option maxHeartbeats 1000000 in
/-- Behind the bounds. -/
theorem more_main (a0 : Option Addr) (n0 c0 : Nat) (z0 : List Int) (a1 : Option Addr) (n1 c1 : Nat) (z1 : List Int) (a2 : Option Addr) (n2 c2 : Nat) (z2 : List Int) (ed es eq d srv : Int) (w : World)
    (h0 : Row .u32 w a0 n0 c0 z0) (h1 : Row .u32 w a1 n1 c1 z1) (h2 : Row .u64 w a2 n2 c2 z2) (wd : U32 ed) (ws : U32 es) (wq : U64 eq) (wd' : U32 d)
    (m0 : n0 ≤ 65536) (m1 : n1 ≤ 65536) (m2 : n2 ≤ 65536) (hb : ¬ (1048576 : Int) < 4 * n0 + 4 * n1 + 8 * n2) :
    Calls Try.prog 4 #[.slice a0 n0 c0, .slice a1 n1 c1, .slice a2 n2 c2, .int .u32 ed, .int .u32 es, .int .u64 eq, .int .u32 d, .int .u32 srv] w fun e w' => e = .returned (.bool true) ∧ Below w.heap.size w w' := by
  obtain ⟨n, hn⟩ : ∃ n, n = min n0 (min n1 n2) := ⟨_, rfl⟩
  have hm : n ≤ 65536 := by omega
  have hwf := log_wf h0 h1 h2 hn
  have HN : Hid (n = min n0 (min n1 n2)) := hn
  have l0 := h0.len
  have l1 := h1.len
  have l2 := h2.len
  obtain ⟨⟨⟨r0, r1, r2⟩, rb⟩, hr⟩ : ∃ r, lr (log z0 z1 z2 n) d srv = r := ⟨_, rfl⟩
  obtain ⟨⟨⟨t0, t1, t2⟩, tb⟩, ht⟩ : ∃ r, lr (log z0 z1 z2 n ++ [(ed, es, eq)]) d srv = r := ⟨_, rfl⟩
  have HR : Hid (lr (log z0 z1 z2 n) d srv = ((r0, r1, r2), rb)) := hr
  have HT : Hid (lr (log z0 z1 z2 n ++ [(ed, es, eq)]) d srv = ((t0, t1, t2), tb)) := ht
  clear hr ht hn
  go_enter Try.func4, Try.ntmps4
  go_wp2_with (first
    | (go_at_call 10; refine (bytes10_any a0 a1 a2 n0 c0 n1 c1 n2 c2 ed es eq d srv _ l0 l1 l2).mono ?_; rintro e w' ⟨b, rfl, rfl⟩)
    | (go_at_call 6; refine (len_any a0 a1 a2 n0 c0 n1 c1 n2 c2 _ m0 m1 m2).mono ?_; rintro e w' ⟨rfl, rfl⟩; rw [← HN.out])
    | (go_at_call 7; refine (build_any _ a0 a1 a2 n0 c0 n1 c1 n2 c2 z0 z1 z2 h0 h1 h2 n HN.out hm).mono ?_; rintro e w1 ⟨b1, b2, rfl, hst, hb1, hb2, hbe⟩))
  · go_ret
    exact ⟨rfl, Below.refl _ _⟩
  have hst1 : St (w1.alloc (Obj.cells #[Value.map (some b1), Value.map (some b2)] 30)) b1 b2 n (M1 (log z0 z1 z2 n)) (M2 (log z0 z1 z2 n)) := ⟨hst.last.alloc _, hst.latest.alloc _, hst.ne⟩
  refine (lr_parts _ b1 b2 n _ d srv r0 r1 r2 rb hst1 hwf wd' HR.out).mono ?_
  rintro e w2 ⟨rfl, hbe2⟩
  have hlt := hst.lt
  have y1 := hbe.size
  have y2 := hbe2.size
  simp at y2
  have hst2 : St (w2.alloc (Obj.cells #[Value.int .u32 r0, Value.int .u32 r1, Value.int .u64 r2] 34)) b1 b2 n (M1 (log z0 z1 z2 n)) (M2 (log z0 z1 z2 n)) := by
    have := hst1.below hbe2 (by simp; omega) (by simp; omega)
    exact ⟨this.last.alloc _, this.latest.alloc _, this.ne⟩
  have cS : ∀ i, w2.cell? ⟨w1.heap.size, i, none⟩ = (w1.alloc (Obj.cells #[Value.map (some b1), Value.map (some b2)] 30)).cell? ⟨w1.heap.size, i, none⟩ := fun i => hbe2.cell (p := ⟨w1.heap.size, i, none⟩) (by simp)
  have cA : ∀ i, (w2.alloc (Obj.cells #[Value.int .u32 r0, Value.int .u32 r1, Value.int .u64 r2] 34)).cell? ⟨w1.heap.size, i, none⟩ = w2.cell? ⟨w1.heap.size, i, none⟩ := fun i => World.cell?_of_block (Below.heap_alloc _ _ _ (by simp; omega))
  have s0 : (w2.alloc (Obj.cells #[Value.int .u32 r0, Value.int .u32 r1, Value.int .u64 r2] 34)).cell? ⟨w1.heap.size, 0, none⟩ = some (.map (some b1)) := by rw [cA, cS]; simp [go_sem]
  have s1 : (w2.alloc (Obj.cells #[Value.int .u32 r0, Value.int .u32 r1, Value.int .u64 r2] 34)).cell? ⟨w1.heap.size, 1, none⟩ = some (.map (some b2)) := by rw [cA, cS]; simp [go_sem]
  clear cS cA
  go_wp2_with fail
  refine (rec_log _ b1 b2 n _ ed es eq wd ws wq (by unfold maxLen; omega) hst2).mono ?_
  rintro e w3 ⟨rfl, hst3, hk3⟩
  have y3 := hk3.size
  simp at y3
  have s2 : w3.cell? ⟨w1.heap.size, 0, none⟩ = some (.map (some b1)) := by rw [hk3.cell (by simp; omega) (by simp; omega) (by simp; omega)]; exact s0
  have s3 : w3.cell? ⟨w1.heap.size, 1, none⟩ = some (.map (some b2)) := by rw [hk3.cell (by simp; omega) (by simp; omega) (by simp; omega)]; exact s1
  have q0 : ∀ i, w3.cell? ⟨w2.heap.size, i, none⟩ = (w2.alloc (Obj.cells #[Value.int .u32 r0, Value.int .u32 r1, Value.int .u64 r2] 34)).cell? ⟨w2.heap.size, i, none⟩ := fun i => hk3.cell (p := ⟨w2.heap.size, i, none⟩) (by simp) (by simp; omega) (by simp; omega)
  have Q0 : Hid (∀ i, w3.cell? ⟨w2.heap.size, i, none⟩ = (w2.alloc (Obj.cells #[Value.int .u32 r0, Value.int .u32 r1, Value.int .u64 r2] 34)).cell? ⟨w2.heap.size, i, none⟩) := q0
  clear s0 s1 q0
  go_wp2_with fail
  refine (lr_parts _ b1 b2 (n + 1) _ d srv t0 t1 t2 tb hst3 (hwf.snoc wd ws wq) wd' HT.out).mono ?_
  rintro e w4 ⟨rfl, hbe4⟩
  have y4 := hbe4.size
  have cA : ∀ i, (w4.alloc (Obj.cells #[Value.int .u32 t0, Value.int .u32 t1, Value.int .u64 t2] 34)).cell? ⟨w2.heap.size, i, none⟩ = w4.cell? ⟨w2.heap.size, i, none⟩ := fun i => World.cell?_of_block (Below.heap_alloc _ _ _ (by simp; omega))
  have cB : ∀ i, w4.cell? ⟨w2.heap.size, i, none⟩ = w3.cell? ⟨w2.heap.size, i, none⟩ := fun i => hbe4.cell (p := ⟨w2.heap.size, i, none⟩) (by simp; omega)
  have k0 : (w4.alloc (Obj.cells #[Value.int .u32 t0, Value.int .u32 t1, Value.int .u64 t2] 34)).cell? ⟨w2.heap.size, 0, none⟩ = some (.int .u32 r0) := by rw [cA, cB, Q0.out]; simp [go_sem]
  have k1 : (w4.alloc (Obj.cells #[Value.int .u32 t0, Value.int .u32 t1, Value.int .u64 t2] 34)).cell? ⟨w2.heap.size, 1, none⟩ = some (.int .u32 r1) := by rw [cA, cB, Q0.out]; simp [go_sem]
  have k2 : (w4.alloc (Obj.cells #[Value.int .u32 t0, Value.int .u32 t1, Value.int .u64 t2] 34)).cell? ⟨w2.heap.size, 2, none⟩ = some (.int .u64 r2) := by rw [cA, cB, Q0.out]; simp [go_sem]
  have bel : Below w.heap.size w (w4.alloc (Obj.cells #[Value.int .u32 t0, Value.int .u32 t1, Value.int .u64 t2] 34)) := by
    have e1 : Below w.heap.size w w2 := (hbe.alloc (by omega) _).trans (hbe2.mono (by simp; omega))
    have e2 : Below w.heap.size w w3 := (e1.alloc (by omega) _).trans (hk3.below (by omega) (by omega) (by simp; omega))
    exact (e2.trans (hbe4.mono (by omega))).alloc (by omega) _
  clear cA cB
  by_cases g1 : ed = d
  · subst g1
    by_cases g3 : es = srv
    · subst g3
      have hR := more_self (log z0 z1 z2 n) ed eq es
      rw [HR.out, HT.out] at hR
      simp only [Prod.mk.injEq] at hR
      rcases hR with ⟨⟨rfl, rfl, rfl⟩, rfl⟩ | ⟨rfl, ⟨rfl, rfl, rfl⟩, rfl⟩
      · go_wp2
        go_ret
        exact ⟨rfl, bel.alloc (by simp; omega) _⟩
      · go_wp2
        go_ret
        exact ⟨rfl, bel⟩
    · have hR := more_other (log z0 z1 z2 n) ed es eq srv g3
      rw [HT.out] at hR
      simp only [Prod.mk.injEq] at hR
      obtain ⟨⟨rfl, rfl, rfl⟩, rfl⟩ := hR
      have g2 : (t1 != srv) = true := by simpa using g3
      go_wp2
      go_ret
      exact ⟨rfl, bel.alloc (by simp; omega) _⟩
  · have hR := more_elsewhere (log z0 z1 z2 n) (ed, es, eq) d srv g1
    rw [HR.out, HT.out] at hR
    simp only [Prod.mk.injEq] at hR
    obtain ⟨⟨rfl, rfl, rfl⟩, rfl⟩ := hR
    have g2 : (ed != d) = true := by simpa using g1
    go_wp2
    go_ret
    exact ⟨rfl, bel⟩

set_option maxHeartbeats 1000000 in
/-- FnLastReplicatedAfterOneMore. -/
theorem more_any (a0 : Option Addr) (n0 c0 : Nat) (z0 : List Int) (a1 : Option Addr) (n1 c1 : Nat) (z1 : List Int) (a2 : Option Addr) (n2 c2 : Nat) (z2 : List Int) (ed es eq d srv : Int) (w : World)
    (h0 : Row .u32 w a0 n0 c0 z0) (h1 : Row .u32 w a1 n1 c1 z1) (h2 : Row .u64 w a2 n2 c2 z2) (wd : U32 ed) (ws : U32 es) (wq : U64 eq) (wd' : U32 d) :
    Calls Try.prog 4 #[.slice a0 n0 c0, .slice a1 n1 c1, .slice a2 n2 c2, .int .u32 ed, .int .u32 es, .int .u64 eq, .int .u32 d, .int .u32 srv] w fun e w' => e = .returned (.bool true) ∧ Below w.heap.size w w' := by
  have l0 := h0.len
  have l1 := h1.len
  have l2 := h2.len
  by_cases m : (n0 ≤ 65536 ∧ n1 ≤ 65536) ∧ n2 ≤ 65536
  · by_cases hb : (1048576 : Int) < 4 * n0 + 4 * n1 + 8 * n2
    · obtain ⟨⟨m0, m1⟩, m2⟩ := m
      go_enter Try.func4, Try.ntmps4
      go_wp2_with (go_at_call 10; refine (bytes10_any a0 a1 a2 n0 c0 n1 c1 n2 c2 ed es eq d srv _ l0 l1 l2).mono ?_; rintro e w' ⟨b, rfl, rfl⟩)
      all_goals (go_ret; exact ⟨rfl, Below.refl _ _⟩)
    · exact more_main a0 n0 c0 z0 a1 n1 c1 z1 a2 n2 c2 z2 ed es eq d srv w h0 h1 h2 wd ws wq wd' m.1.1 m.1.2 m.2 hb
  · unfold maxLen at l0 l1 l2
    by_cases m0 : n0 ≤ 65536
    · by_cases m1 : n1 ≤ 65536
      · have m2 : ¬ n2 ≤ 65536 := fun h => m ⟨⟨m0, m1⟩, h⟩
        clear m
        go_enter Try.func4, Try.ntmps4
        go_wp2_with (go_at_call 10; refine (bytes10_any a0 a1 a2 n0 c0 n1 c1 n2 c2 ed es eq d srv _ l0 l1 l2).mono ?_; rintro e w' ⟨b, rfl, rfl⟩)
        all_goals (go_ret; exact ⟨rfl, Below.refl _ _⟩)
      · clear m
        go_enter Try.func4, Try.ntmps4
        go_wp2_with (go_at_call 10; refine (bytes10_any a0 a1 a2 n0 c0 n1 c1 n2 c2 ed es eq d srv _ l0 l1 l2).mono ?_; rintro e w' ⟨b, rfl, rfl⟩)
        all_goals (go_ret; exact ⟨rfl, Below.refl _ _⟩)
    · clear m
      go_enter Try.func4, Try.ntmps4
      go_wp2_with (go_at_call 10; refine (bytes10_any a0 a1 a2 n0 c0 n1 c1 n2 c2 ed es eq d srv _ l0 l1 l2).mono ?_; rintro e w' ⟨b, rfl, rfl⟩)
      all_goals (go_ret; exact ⟨rfl, Below.refl _ _⟩)

end Go.Proofs.Qxb6632418a
