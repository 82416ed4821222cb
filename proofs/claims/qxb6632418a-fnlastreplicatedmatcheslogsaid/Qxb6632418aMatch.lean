/- FnLastReplicatedMatchesLog: the walk. -/
import Derived.Test.Qxb6632418aModel
namespace Go.Proofs.Qxb6632418a
open Go.RowKit Go.Maps Logs

set_option maxHeartbeats 1000000 in
/-- Behind the bounds. -/
theorem match_main (a0 : Option Addr) (n0 c0 : Nat) (z0 : List Int) (a1 : Option Addr) (n1 c1 : Nat) (z1 : List Int) (a2 : Option Addr) (n2 c2 : Nat) (z2 : List Int) (d srv : Int) (w : World)
    (h0 : Row .u32 w a0 n0 c0 z0) (h1 : Row .u32 w a1 n1 c1 z1) (h2 : Row .u64 w a2 n2 c2 z2) (wd' : U32 d)
    (m0 : n0 ≤ 65536) (m1 : n1 ≤ 65536) (m2 : n2 ≤ 65536) (hb : ¬ (1048576 : Int) < 4 * n0 + 4 * n1 + 8 * n2) :
    Calls Try.prog 3 #[.slice a0 n0 c0, .slice a1 n1 c1, .slice a2 n2 c2, .int .u32 d, .int .u32 srv] w fun e w' => e = .returned (.bool true) ∧ Below w.heap.size w w' := by
  obtain ⟨n, hn⟩ : ∃ n, n = min n0 (min n1 n2) := ⟨_, rfl⟩
  have hm : n ≤ 65536 := by omega
  have hwf := log_wf h0 h1 h2 hn
  have HN : Hid (n = min n0 (min n1 n2)) := hn
  have l0 := h0.len
  have l1 := h1.len
  have l2 := h2.len
  obtain ⟨⟨⟨r0, r1, r2⟩, rb⟩, hr⟩ : ∃ r, lr (log z0 z1 z2 n) d srv = r := ⟨_, rfl⟩
  have HR : Hid (lr (log z0 z1 z2 n) d srv = ((r0, r1, r2), rb)) := hr
  clear hr hn
  go_enter Try.func3, Try.ntmps3
  go_wp2_with (first
    | (go_at_call 5; refine (bytes5_any a0 a1 a2 n0 c0 n1 c1 n2 c2 d srv _ l0 l1 l2).mono ?_; rintro e w' ⟨b, rfl, rfl⟩)
    | (go_at_call 6; refine (len_any a0 a1 a2 n0 c0 n1 c1 n2 c2 _ m0 m1 m2).mono ?_; rintro e w' ⟨rfl, rfl⟩; rw [← HN.out])
    | (go_at_call 7; refine (build_any _ a0 a1 a2 n0 c0 n1 c1 n2 c2 z0 z1 z2 h0 h1 h2 n HN.out hm).mono ?_; rintro e w1 ⟨b1, b2, rfl, hst, hb1, hb2, hbe⟩))
  · go_ret
    exact ⟨rfl, Below.refl _ _⟩
  have hst1 : St (w1.alloc (Obj.cells #[Value.map (some b1), Value.map (some b2)] 30)) b1 b2 n (M1 (log z0 z1 z2 n)) (M2 (log z0 z1 z2 n)) := ⟨hst.last.alloc _, hst.latest.alloc _, hst.ne⟩
  refine (lr_parts _ b1 b2 n _ d srv r0 r1 r2 rb hst1 hwf wd' HR.out).mono ?_
  rintro e w2 ⟨rfl, hbe2⟩
  have y1 := hbe.size
  have y2 := hbe2.size
  simp at y2
  have bel2 : Below w.heap.size w (w2.alloc (Obj.cells #[Value.int .u32 r0, Value.int .u32 r1, Value.int .u64 r2] 34)) := ((hbe.alloc (by omega) _).trans (hbe2.mono (by simp; omega))).alloc (by omega) _
  go_wp2_with fail
  refine (model_any w a0 a1 a2 n0 c0 n1 c1 n2 c2 z0 z1 z2 h0 h1 h2 n HN.out hm _ bel2 d srv r0 r1 r2 rb HR.out).mono ?_
  rintro e w4 ⟨rfl, hbe4⟩
  have y4 := hbe4.size
  simp at y4
  have cA : ∀ i, (w4.alloc (Obj.cells #[Value.int .u32 r0, Value.int .u32 r1, Value.int .u64 r2] 34)).cell? ⟨w2.heap.size, i, none⟩ = w4.cell? ⟨w2.heap.size, i, none⟩ := fun i => World.cell?_of_block (Below.heap_alloc _ _ _ (by simp; omega))
  have cB : ∀ i, w4.cell? ⟨w2.heap.size, i, none⟩ = (w2.alloc (Obj.cells #[Value.int .u32 r0, Value.int .u32 r1, Value.int .u64 r2] 34)).cell? ⟨w2.heap.size, i, none⟩ := fun i => hbe4.cell (p := ⟨w2.heap.size, i, none⟩) (by simp)
  have k0 : (w4.alloc (Obj.cells #[Value.int .u32 r0, Value.int .u32 r1, Value.int .u64 r2] 34)).cell? ⟨w2.heap.size, 0, none⟩ = some (.int .u32 r0) := by rw [cA, cB]; simp [go_sem]
  have k1 : (w4.alloc (Obj.cells #[Value.int .u32 r0, Value.int .u32 r1, Value.int .u64 r2] 34)).cell? ⟨w2.heap.size, 1, none⟩ = some (.int .u32 r1) := by rw [cA, cB]; simp [go_sem]
  have k2 : (w4.alloc (Obj.cells #[Value.int .u32 r0, Value.int .u32 r1, Value.int .u64 r2] 34)).cell? ⟨w2.heap.size, 2, none⟩ = some (.int .u64 r2) := by rw [cA, cB]; simp [go_sem]
  have bel : Below w.heap.size w (w4.alloc (Obj.cells #[Value.int .u32 r0, Value.int .u32 r1, Value.int .u64 r2] 34)) := (bel2.trans (hbe4.mono (by simp; omega))).alloc (by omega) _
  clear cA cB
  go_wp2
  go_ret
  exact ⟨rfl, bel⟩

set_option maxHeartbeats 1000000 in
/-- FnLastReplicatedMatchesLog. -/
theorem match_any (a0 : Option Addr) (n0 c0 : Nat) (z0 : List Int) (a1 : Option Addr) (n1 c1 : Nat) (z1 : List Int) (a2 : Option Addr) (n2 c2 : Nat) (z2 : List Int) (d srv : Int) (w : World)
    (h0 : Row .u32 w a0 n0 c0 z0) (h1 : Row .u32 w a1 n1 c1 z1) (h2 : Row .u64 w a2 n2 c2 z2) (wd' : U32 d) :
    Calls Try.prog 3 #[.slice a0 n0 c0, .slice a1 n1 c1, .slice a2 n2 c2, .int .u32 d, .int .u32 srv] w fun e w' => e = .returned (.bool true) ∧ Below w.heap.size w w' := by
  have l0 := h0.len
  have l1 := h1.len
  have l2 := h2.len
  by_cases m : (n0 ≤ 65536 ∧ n1 ≤ 65536) ∧ n2 ≤ 65536
  · by_cases hb : (1048576 : Int) < 4 * n0 + 4 * n1 + 8 * n2
    · obtain ⟨⟨m0, m1⟩, m2⟩ := m
      go_enter Try.func3, Try.ntmps3
      go_wp2_with (go_at_call 5; refine (bytes5_any a0 a1 a2 n0 c0 n1 c1 n2 c2 d srv _ l0 l1 l2).mono ?_; rintro e w' ⟨b, rfl, rfl⟩)
      all_goals (go_ret; exact ⟨rfl, Below.refl _ _⟩)
    · exact match_main a0 n0 c0 z0 a1 n1 c1 z1 a2 n2 c2 z2 d srv w h0 h1 h2 wd' m.1.1 m.1.2 m.2 hb
  · unfold maxLen at l0 l1 l2
    by_cases m0 : n0 ≤ 65536
    · by_cases m1 : n1 ≤ 65536
      · have m2 : ¬ n2 ≤ 65536 := fun h => m ⟨⟨m0, m1⟩, h⟩
        clear m
        go_enter Try.func3, Try.ntmps3
        go_wp2_with (go_at_call 5; refine (bytes5_any a0 a1 a2 n0 c0 n1 c1 n2 c2 d srv _ l0 l1 l2).mono ?_; rintro e w' ⟨b, rfl, rfl⟩)
        all_goals (go_ret; exact ⟨rfl, Below.refl _ _⟩)
      · clear m
        go_enter Try.func3, Try.ntmps3
        go_wp2_with (go_at_call 5; refine (bytes5_any a0 a1 a2 n0 c0 n1 c1 n2 c2 d srv _ l0 l1 l2).mono ?_; rintro e w' ⟨b, rfl, rfl⟩)
        all_goals (go_ret; exact ⟨rfl, Below.refl _ _⟩)
    · clear m
      go_enter Try.func3, Try.ntmps3
      go_wp2_with (go_at_call 5; refine (bytes5_any a0 a1 a2 n0 c0 n1 c1 n2 c2 d srv _ l0 l1 l2).mono ?_; rintro e w' ⟨b, rfl, rfl⟩)
      all_goals (go_ret; exact ⟨rfl, Below.refl _ _⟩)

end Go.Proofs.Qxb6632418a
