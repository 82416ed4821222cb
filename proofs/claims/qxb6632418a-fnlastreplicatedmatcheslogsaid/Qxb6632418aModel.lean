/- zzModelLastReplicated: the walk. -/
import Derived.Test.Qxb6632418aMain
namespace Go.Proofs.Qxb6632418a
open Go.RowKit Go.Maps Logs
attribute [local go_sem ↓] Go.wp_at_zero Go.wp_at_succ

/-- The call's own variables: the result's (block N) and 'other' (block N + 1). -/
structure MV (wr : World) (N : Nat) (o : Ev) : Prop where
  big : N + 1 < wr.heap.size
  r0 : ∃ v, wr.cell? ⟨N, 0, none⟩ = some v
  r1 : ∃ v, wr.cell? ⟨N, 1, none⟩ = some v
  r2 : ∃ v, wr.cell? ⟨N, 2, none⟩ = some v
  f : ∀ i, wr.frozen? ⟨N, i, none⟩ = false
  o0 : wr.cell? ⟨N + 1, 0, none⟩ = some (.int .u32 o.1)
  o1 : wr.cell? ⟨N + 1, 1, none⟩ = some (.int .u32 o.2.1)
  o2 : wr.cell? ⟨N + 1, 2, none⟩ = some (.int .u64 o.2.2)
  g : ∀ i, wr.frozen? ⟨N + 1, i, none⟩ = false
theorem MV.put {W : World} {N : Nat} {o : Ev} (h : MV W N o) (x y c : Int) :
    MV (((W.setCell ⟨N + 1, 0, none⟩ (.int .u32 x)).setCell ⟨N + 1, 1, none⟩ (.int .u32 y)).setCell ⟨N + 1, 2, none⟩ (.int .u64 c)) N (x, y, c) := by
  obtain ⟨hbig, ⟨v0, r0⟩, ⟨v1, r1⟩, ⟨v2, r2⟩, hf, c0, c1, c2, hg⟩ := h
  refine ⟨by simpa [World.setCell] using hbig, ⟨v0, ?_⟩, ⟨v1, ?_⟩, ⟨v2, ?_⟩, fun i => ?_, ?_, ?_, ?_, fun i => ?_⟩
  all_goals simp [go_sem, r0, r1, r2, hf, c0, c1, c2, hg]
theorem MV.drew {W : World} {N : Nat} {o : Ev} (h : MV W N o) : MV W.drew N o := ⟨h.big, h.r0, h.r1, h.r2, h.f, h.o0, h.o1, h.o2, h.g⟩
/-- What the second loop has seen of the log from place k on. -/
def Tail (f g h : Nat → Int) (n k : Nat) (d srv : Int) (fb : Bool) (o : Ev) : Prop :=
  (fb = false ∧ o = (0, 0, 0) ∧ others ((ev f g h n).drop k) d srv = []) ∨
  (fb = true ∧ o.1 = d ∧ Logs.Found (others ((ev f g h n).drop k) d srv) o.2.1 o.2.2 d)
theorem Tail.start (f g h : Nat → Int) (n : Nat) (d srv : Int) : Tail f g h n n d srv false (0, 0, 0) :=
  Or.inl ⟨rfl, rfl, by rw [List.drop_eq_nil_of_le (by rw [ev_length]; exact Nat.le_refl _)]; rfl⟩
theorem Tail.skip {f g h : Nat → Int} {n k : Nat} {d srv : Int} {fb : Bool} {o : Ev} (ht : Tail f g h n (k + 1) d srv fb o) (hk : k < n) (hn : f k ≠ d ∨ g k = srv) : Tail f g h n k d srv fb o := by
  have e : others ((ev f g h n).drop k) d srv = others ((ev f g h n).drop (k + 1)) d srv := by
    rw [ev_drop f g h n k hk, others_cons, if_neg]
    simp only [isOther, decide_eq_true_eq]
    omega
  unfold Tail
  rw [e]
  exact ht
theorem Tail.take {f g h : Nat → Int} {n k : Nat} {d srv : Int} {o : Ev} (ht : Tail f g h n (k + 1) d srv false o) (hk : k < n) (h1 : f k = d) (h2 : g k ≠ srv) : Tail f g h n k d srv true (d, g k, h k) := by
  rcases ht with ⟨_, _, e0⟩ | ⟨e, _⟩
  · refine Or.inr ⟨rfl, rfl, ?_⟩
    rw [ev_drop f g h n k hk, others_cons, if_pos (by simp [isOther, h1, h2]), h1]
    exact found_first e0
  · cases e
theorem Tail.same {f g h : Nat → Int} {n k : Nat} {d srv : Int} {o : Ev} (ht : Tail f g h n (k + 1) d srv true o) (hk : k < n) (h1 : f k = d) (h2 : g k ≠ srv) (h3 : g k = o.2.1) : Tail f g h n k d srv true o := by
  rcases ht with ⟨e, _⟩ | ⟨_, e1, e2⟩
  · cases e
  · refine Or.inr ⟨rfl, e1, ?_⟩
    rw [ev_drop f g h n k hk, others_cons, if_pos (by simp [isOther, h1, h2])]
    exact found_cons e2 _ h3
theorem Tail.clash {f g h : Nat → Int} {n k : Nat} {d srv : Int} {o : Ev} (ht : Tail f g h n (k + 1) d srv true o) (hk : k < n) (h1 : f k = d) (h2 : g k ≠ srv) (h3 : g k ≠ o.2.1) : second (others (ev f g h n) d srv) d = ((0, 0, 0), false) := by
  rcases ht with ⟨e, _⟩ | ⟨_, e1, e2⟩
  · cases e
  · refine second_clash (t := others ((ev f g h n).drop (k + 1)) d srv) ⟨others ((ev f g h n).take (k + 1)) d srv, ?_⟩ e2 (f k, g k, h k) ?_ h3
    · unfold others
      rw [← List.filter_append, List.take_append_drop]
    · refine mem_others.2 ⟨?_, h1, h2⟩
      exact List.mem_map.2 ⟨k, List.mem_range.2 hk, rfl⟩
theorem Tail.done {f g h : Nat → Int} {n : Nat} {d srv : Int} {fb : Bool} {o : Ev} (ht : Tail f g h n 0 d srv fb o) : second (others (ev f g h n) d srv) d = (o, fb) := by
  rcases ht with ⟨rfl, rfl, e0⟩ | ⟨rfl, e1, e2⟩
  · rw [List.drop_zero] at e0
    rw [e0]; rfl
  · rw [List.drop_zero] at e2
    rw [found_second e2]
    obtain ⟨o0, o1, o2⟩ := o
    simp only at e1
    rw [e1]

set_option maxHeartbeats 1000000 in
set_option maxRecDepth 100000 in
theorem model_some (w : World) (p0 o0 p1 o1 p2 o2 n0 c0 n1 c1 n2 c2 n : Nat) (f g h : Nat → Int) (d srv : Int) (hn : 0 < n) (hm : n ≤ 65536) (hn0 : n ≤ n0) (hn1 : n ≤ n1) (hn2 : n ≤ n2)
    (h0 : Col .u32 w p0 o0 n f) (h1 : Col .u32 w p1 o1 n g) (h2 : Col .u64 w p2 o2 n h) :
    Calls Try.prog 9 #[.slice (some ⟨p0, o0, none⟩) n0 c0, .slice (some ⟨p1, o1, none⟩) n1 c1, .slice (some ⟨p2, o2, none⟩) n2 c2, .int .i64 n, .int .u32 d, .int .u32 srv] w fun e w' =>
      e = .returned (ansV (lr (ev f g h n) d srv)) ∧ Below w.heap.size w w' := by
  have l0 := h0.lt hn
  have l1 := h1.lt hn
  have l2 := h2.lt hn
  have hb0 : Below w.heap.size w (w.alloc (Obj.cells #[Value.int .u32 0, Value.int .u32 0, Value.int .u64 0] 34)) := (Below.refl _ _).alloc (Nat.le_refl _) _
  have k0 := h0.below hb0 l0
  have k1 := h1.below hb0 l1
  have k2 := h2.below hb0 l2
  go_enter Try.func9, Try.ntmps9
  go_wp2
  go_loop [14] (fun i => ∃ k : Nat, k ≤ n ∧ i = .int .i64 ((k : Int) - 1) ∧ ∀ j, k ≤ j → j < n → f j ≠ d) (fun i => (intOf i + 1).toNat)
  case atStart => exact ⟨n, Nat.le_refl _, rfl, fun j a b => by omega⟩
  case round =>
    obtain ⟨k, hk, rfl, hall⟩ := hrel
    cases k with
    | zero =>
      have hl := latest_no f g h d n (fun i hi => hall i (Nat.zero_le _) hi)
      have HL : Hid (lr (ev f g h n) d srv = ((0, 0, 0), false)) := by unfold lr; rw [hl]; rfl
      clear hl hall
      go_wp2
      refine bodyPost_ret (v := ansV ((0, 0, 0), false)) (by simp [results, Try.results9, go_sem, ansV]) rfl ⟨by rw [HL.out], hb0⟩
    | succ k =>
      rw [show (((k + 1 : Nat) : Int) - 1) = (k : Int) by omega]
      have e0 := (k0 k (by omega)).1
      have e1 := (k1 k (by omega)).1
      have e2 := (k2 k (by omega)).1
      have i1 : (0 : Int) ≤ (k : Int) := by omega
      have i2 : (k : Int) < (n0 : Int) := by omega
      have i3 : (k : Int) < (n1 : Int) := by omega
      have i4 : (k : Int) < (n2 : Int) := by omega
      by_cases hd : f k = d
      · have hl := latest_at f g h d k n (by omega) hd (fun i a b => hall i (by omega) b)
        have hd' : (f k != d) = false := by simpa using hd
        by_cases hs : g k = srv
        · have HL : Hid (lr (ev f g h n) d srv = second (others (ev f g h n) d srv) d) := by
            show lr (ev f g h n) d srv = _
            unfold lr; rw [hl]; simp [hs]
          have hs' : (g k != srv) = false := by simpa using hs
          clear hl hall hd
          go_wp2
          have hmv : MV ((w.alloc (Obj.cells #[Value.int .u32 0, Value.int .u32 0, Value.int .u64 0] 34)).alloc (Obj.cells #[Value.int .u32 0, Value.int .u32 0, Value.int .u64 0] 34)) w.heap.size (0, 0, 0) := by
            refine ⟨by simp, ⟨.int .u32 0, ?_⟩, ⟨.int .u32 0, ?_⟩, ⟨.int .u64 0, ?_⟩, fun i => ?_, ?_, ?_, ?_, fun i => ?_⟩
            all_goals simp [go_sem]
          have hbb : Below w.heap.size w ((w.alloc (Obj.cells #[Value.int .u32 0, Value.int .u32 0, Value.int .u64 0] 34)).alloc (Obj.cells #[Value.int .u32 0, Value.int .u32 0, Value.int .u64 0] 34)) := hb0.alloc (by simp) _
          generalize ((w.alloc (Obj.cells #[Value.int .u32 0, Value.int .u32 0, Value.int .u64 0] 34)).alloc (Obj.cells #[Value.int .u32 0, Value.int .u32 0, Value.int .u64 0] 34)) = w2 at hmv hbb ⊢
          clear e0 e1 e2 i1 i2 i3 i4 hd' hs' hk hs
          go_loopw [15, 17] (fun fo jj wr => ∃ (m : Nat) (fb : Bool) (o : Ev), m ≤ n ∧ fo = .bool fb ∧ jj = .int .i64 ((m : Int) - 1) ∧ Below w.heap.size w wr ∧ MV wr w.heap.size o ∧ Tail f g h n m d srv fb o) (fun _ jj _ => (intOf jj + 1).toNat)
          case atStart => exact ⟨n, false, (0, 0, 0), Nat.le_refl _, rfl, rfl, hbb, hmv, Tail.start f g h n d srv⟩
          case round =>
            obtain ⟨m, fb, ⟨s0, s1, s2⟩, hmn, rfl, rfl, hb, hv, ht⟩ := hrel
            have hv' := hv
            obtain ⟨hbig, ⟨v0, r0⟩, ⟨v1, r1⟩, ⟨v2, r2⟩, hf, x0, x1, x2, hg⟩ := hv
            cases m with
            | zero =>
              have HD : Hid (second (others (ev f g h n) d srv) d = ((s0, s1, s2), fb)) := ht.done
              go_wp2
              refine bodyPost_ret (v := ansV ((s0, s1, s2), fb)) (by simp [results, Try.results9, go_sem, ansV, r0, r1, r2]) rfl ⟨by rw [HL.out, HD.out], ?_⟩
              exact ((hb.setCell (by simp) _).setCell (by simp) _).setCell (by simp) _
            | succ m =>
              rw [show (((m + 1 : Nat) : Int) - 1) = (m : Int) by omega]
              have e0 := ((h0.below hb l0) m (by omega)).1
              have e1 := ((h1.below hb l1) m (by omega)).1
              have e2 := ((h2.below hb l2) m (by omega)).1
              have i1 : (0 : Int) ≤ (m : Int) := by omega
              have i2 : (m : Int) < (n0 : Int) := by omega
              have i3 : (m : Int) < (n1 : Int) := by omega
              have i4 : (m : Int) < (n2 : Int) := by omega
              by_cases hd : f m = d
              · have hd' : (f m != d) = false := by simpa using hd
                by_cases hs : g m = srv
                · have hs' : (g m == srv) = true := by simpa using hs
                  go_wp2
                  go_roundw
                  case rel => exact ⟨m, fb, _, by omega, rfl, rfl, hb, hv', ht.skip (by omega) (Or.inr hs)⟩
                  case measure => simp [intOf]
                · have hs' : (g m == srv) = false := by simpa using hs
                  cases fb
                  · have _np1 : ¬ p1 = w.heap.size + 1 := by omega
                    have _np2 : ¬ p2 = w.heap.size + 1 := by omega
                    have hv2 := (hv'.drew.put d (g m) (h m))
                    have ht2 := ht.take (by omega) hd hs
                    go_wp2
                    go_region_held3 (fun w' => w'.cell? ⟨p1, o1 + m, none⟩ = some (.int .u32 (g m)) ∧ w'.cell? ⟨p2, o2 + m, none⟩ = some (.int .u64 (h m))) (simp [go_sem, e1, e2]) (fail)
                    go_wp2
                    go_roundw
                    case rel => exact ⟨m, true, _, by omega, rfl, rfl, ((hb.drew.setCell (by simp) _).setCell (by simp) _).setCell (by simp) _, hv2, ht2⟩
                    case measure => simp [intOf]
                  · by_cases hc : g m = s1
                    · have hc' : (g m != s1) = false := by simpa using hc
                      have ht2 := ht.same (by omega) hd hs hc
                      go_wp2
                      go_region_held3 (fun w' => w'.cell? ⟨p1, o1 + m, none⟩ = some (.int .u32 (g m)) ∧ w'.cell? ⟨w.heap.size + 1, 1, none⟩ = some (.int .u32 s1)) (simp [go_sem, e1, x1]) (fail)
                      go_wp2
                      go_roundw
                      case rel => exact ⟨m, true, _, by omega, rfl, rfl, hb.drew, hv'.drew, ht2⟩
                      case measure => simp [intOf]
                    · have hc' : (g m != s1) = true := by simpa using hc
                      have HC : Hid (second (others (ev f g h n) d srv) d = ((0, 0, 0), false)) := ht.clash (by omega) hd hs hc
                      go_wp2
                      go_region_held3 (fun w' => w'.cell? ⟨p1, o1 + m, none⟩ = some (.int .u32 (g m)) ∧ w'.cell? ⟨w.heap.size + 1, 1, none⟩ = some (.int .u32 s1)) (simp [go_sem, e1, x1]) (fail)
                      go_wp2
                      refine bodyPost_ret (v := ansV ((0, 0, 0), false)) (by simp [results, Try.results9, go_sem, ansV, r0, r1, r2]) rfl ⟨by rw [HL.out, HC.out], ?_⟩
                      exact ((hb.drew.setCell (by simp) _).setCell (by simp) _).setCell (by simp) _
              · have hd' : (f m != d) = true := by simpa using hd
                go_wp2
                go_roundw
                case rel => exact ⟨m, fb, _, by omega, rfl, rfl, hb, hv', ht.skip (by omega) (Or.inl hd)⟩
                case measure => simp [intOf]
        · have HL : Hid (lr (ev f g h n) d srv = ((d, g k, h k), true)) := by
            show lr (ev f g h n) d srv = _
            unfold lr; rw [hl]; simp [hs]
          have hs' : (g k != srv) = true := by simpa using hs
          have q1 : ∀ o, (w.alloc o).cell? ⟨p1, o1 + k, none⟩ = some (.int .u32 (g k)) := fun o => ((h1.below ((Below.refl _ _).alloc (Nat.le_refl _) o) l1) k (by omega)).1
          have q2 : ∀ o, (w.alloc o).cell? ⟨p2, o2 + k, none⟩ = some (.int .u64 (h k)) := fun o => ((h2.below ((Below.refl _ _).alloc (Nat.le_refl _) o) l2) k (by omega)).1
          clear hl hall hd
          go_wp2
          go_region_held3 (fun w' => w'.cell? ⟨p1, o1 + k, none⟩ = some (.int .u32 (g k)) ∧ w'.cell? ⟨p2, o2 + k, none⟩ = some (.int .u64 (h k))) (go_keep) (fail)
          go_wp2
          refine bodyPost_ret (v := ansV ((d, g k, h k), true)) (by simp [results, Try.results9, go_sem, ansV]) rfl ⟨by rw [HL.out], ((Below.refl _ _).alloc (Nat.le_refl _) _).drew⟩
      · have hd' : (f k != d) = true := by simpa using hd
        go_wp2
        go_round
        case rel => exact ⟨k, by omega, rfl, fun j a b => by
          by_cases e : j = k
          · rw [e]; exact hd
          · exact hall j (by omega) b⟩
        case measure => simp [intOf]

set_option maxHeartbeats 1000000 in
theorem model_zero (w : World) (a0 a1 a2 : Option Addr) (n0 c0 n1 c1 n2 c2 : Nat) (f g h : Nat → Int) (d srv : Int) :
    Calls Try.prog 9 #[.slice a0 n0 c0, .slice a1 n1 c1, .slice a2 n2 c2, .int .i64 0, .int .u32 d, .int .u32 srv] w fun e w' =>
      e = .returned (ansV (lr (ev f g h 0) d srv)) ∧ Below w.heap.size w w' := by
  go_enter Try.func9, Try.ntmps9
  go_wp2
  refine wp_loop_rounds 1 ?_
  rw [rounds_succ]
  go_wp2
  exact bodyPost_ret (v := ansV ((0, 0, 0), false)) (by simp [results, Try.results9, go_sem, ansV]) rfl ⟨rfl, (Below.refl _ _).alloc (Nat.le_refl _) _⟩

theorem model_any (w : World) (a0 a1 a2 : Option Addr) (n0 c0 n1 c1 n2 c2 : Nat) (z0 z1 z2 : List Int) (h0 : Row .u32 w a0 n0 c0 z0) (h1 : Row .u32 w a1 n1 c1 z1) (h2 : Row .u64 w a2 n2 c2 z2) (n : Nat) (hn : n = min n0 (min n1 n2)) (hm : n ≤ 65536) (w' : World) (hb : Below w.heap.size w w')
    (d srv r0 r1 r2 : Int) (rb : Bool) (hr : lr (log z0 z1 z2 n) d srv = ((r0, r1, r2), rb)) :
    Calls Try.prog 9 #[.slice a0 n0 c0, .slice a1 n1 c1, .slice a2 n2 c2, .int .i64 n, .int .u32 d, .int .u32 srv] w' fun e w'' =>
      e = .returned (.tuple #[.agg #[.int .u32 r0, .int .u32 r1, .int .u64 r2], .bool rb]) ∧ Below w'.heap.size w' w'' := by
  have : Calls Try.prog 9 #[.slice a0 n0 c0, .slice a1 n1 c1, .slice a2 n2 c2, .int .i64 n, .int .u32 d, .int .u32 srv] w' fun e w'' => e = .returned (ansV (lr (log z0 z1 z2 n) d srv)) ∧ Below w'.heap.size w' w'' := by
    by_cases hz : n = 0
    · rw [hz]
      exact model_zero w' a0 a1 a2 n0 c0 n1 c1 n2 c2 _ _ _ d srv
    · obtain ⟨p0, o0, rfl, k0⟩ := h0.col (n := n) (by omega) (by omega)
      obtain ⟨p1, o1, rfl, k1⟩ := h1.col (n := n) (by omega) (by omega)
      obtain ⟨p2, o2, rfl, k2⟩ := h2.col (n := n) (by omega) (by omega)
      exact model_some w' p0 o0 p1 o1 p2 o2 n0 c0 n1 c1 n2 c2 n _ _ _ d srv (by omega) hm (by omega) (by omega) (by omega) (k0.below hb (k0.lt (by omega))) (k1.below hb (k1.lt (by omega))) (k2.below hb (k2.lt (by omega)))
  rw [hr] at this
  exact this

end Go.Proofs.Qxb6632418a
