/- (GTIDState).LastReplicated where the server itself logged last: the loop over the map. -/
import Derived.Test.Qxb6632418aLr
namespace Go.Proofs.Qxb6632418a
open Go.RowKit Go.Maps Logs

theorem vars0 {w w0 : World} {o1 o2 : Obj} (hg0 : ((((w.alloc o1).alloc (Obj.cells #[Value.int .u32 0, Value.int .u32 0, Value.int .u64 0] 34)).alloc o2).alloc (Obj.cells #[Value.int .u32 0, Value.int .u32 0, Value.int .u64 0] 34)).grownBy w0 none) (hs0 : w0.heap.size = w.heap.size + 1 + 1 + 1 + 1 + 1) : Vars w0 w.heap.size (0, 0, 0) := by
  have hc : ∀ p : Addr, p.block < w.heap.size + 1 + 1 + 1 + 1 → w0.cell? p = _ := fun p hp => World.cell?_of_block (hg0.block p.block (by simpa using hp) (by simp))
  have hf : ∀ p : Addr, p.block < w.heap.size + 1 + 1 + 1 + 1 → w0.frozen? p = _ := fun p hp => World.frozen?_of_block (hg0.block p.block (by simpa using hp) (by simp))
  refine ⟨by omega, ⟨.int .u32 0, ?_⟩, ⟨.int .u32 0, ?_⟩, ⟨.int .u64 0, ?_⟩, fun i => ?_, ?_, ?_, ?_, fun i => ?_⟩
  all_goals first | rw [hc _ (by simp; try omega)] | rw [hf _ (by simp; try omega)]
  all_goals simp [go_sem]

theorem Vars.put {W : World} {N : Nat} {o : Ev} (h : Vars W N o) (x y c : Int) :
    Vars (((W.setCell ⟨N + 1 + 1 + 1, 0, none⟩ (.int .u32 x)).setCell ⟨N + 1 + 1 + 1, 1, none⟩ (.int .u32 y)).setCell ⟨N + 1 + 1 + 1, 2, none⟩ (.int .u64 c)) N (x, y, c) := by
  obtain ⟨hbig, ⟨v0, r0⟩, ⟨v1, r1⟩, ⟨v2, r2⟩, hf, c0, c1, c2, hg⟩ := h
  refine ⟨by simpa [World.setCell] using hbig, ⟨v0, ?_⟩, ⟨v1, ?_⟩, ⟨v2, ?_⟩, fun i => ?_, ?_, ?_, ?_, fun i => ?_⟩
  all_goals simp [go_sem, r0, r1, r2, hf, c0, c1, c2, hg]
theorem ranges_put {W : World} {b1 r n N : Nat} {D : DataW Unit} {left : Lit → Bool} {cnt : Nat} (h : W.ranges Try.prog 42 (plainElem Try.prog 32) b1 r n D left cnt) (h1 : b1 ≠ N + 1 + 1 + 1) (h2 : r ≠ N + 1 + 1 + 1) (u0 u1 u2 : Value) :
    (((W.setCell ⟨N + 1 + 1 + 1, 0, none⟩ u0).setCell ⟨N + 1 + 1 + 1, 1, none⟩ u1).setCell ⟨N + 1 + 1 + 1, 2, none⟩ u2).ranges Try.prog 42 (plainElem Try.prog 32) b1 r n D left cnt :=
  ((h.kept (grown_setCell _ _ _) (fun e => h1 (Option.some.inj e)) (fun e => h2 (Option.some.inj e))).kept (grown_setCell _ _ _) (fun e => h1 (Option.some.inj e)) (fun e => h2 (Option.some.inj e))).kept (grown_setCell _ _ _) (fun e => h1 (Option.some.inj e)) (fun e => h2 (Option.some.inj e))

set_option maxHeartbeats 1000000 in
set_option maxRecDepth 100000 in
/-- The server itself logged last. -/
theorem lr_self (w : World) (b1 b2 n : Nat) (l : List Ev) (d srv q : Int) (h : St w b1 b2 n (M1 l) (M2 l)) (hw : WfEv l) (hd : U32 d) (hl : latest l d = some (srv, q)) :
    Calls Try.prog 8 #[.agg #[.map (some b1), .map (some b2)], .int .u32 d, .int .u32 srv] w fun e w' => e = .returned (ansV (second (others l d srv) d)) ∧ Below w.heap.size w w' := by
  have HA : Hid ((M2 l).atKey (.int .u32 d) (gd 0 0 0) = gd d srv q) := by have := (M2_at l d).1 (gd 0 0 0); rw [hl] at this; exact this
  have HH : Hid (Maps.has (M2 l) (.int .u32 d) = true) := by have := (M2_at l d).2; rw [hl] at this; exact this
  clear hl
  have hlt := h.lt
  have hown := (h.latest.alloc (Obj.cells #[Value.map (some b1), Value.map (some b2)] 30)).alloc (Obj.cells #[Value.int .u32 0, Value.int .u32 0, Value.int .u64 0] 34)
  have hown1 := (((h.last.alloc (Obj.cells #[Value.map (some b1), Value.map (some b2)] 30)).alloc (Obj.cells #[Value.int .u32 0, Value.int .u32 0, Value.int .u64 0] 34)).alloc (Obj.cells #[Value.int .u32 d, Value.int .u32 srv, Value.int .u64 q] 34)).alloc (Obj.cells #[Value.int .u32 0, Value.int .u32 0, Value.int .u64 0] 34)
  have e1 : ((((w.alloc (Obj.cells #[Value.map (some b1), Value.map (some b2)] 30)).alloc (Obj.cells #[Value.int .u32 0, Value.int .u32 0, Value.int .u64 0] 34)).alloc (Obj.cells #[Value.int .u32 d, Value.int .u32 srv, Value.int .u64 q] 34)).alloc (Obj.cells #[Value.int .u32 0, Value.int .u32 0, Value.int .u64 0] 34)).heap.size = w.heap.size + 1 + 1 + 1 + 1 := by simp
  go_enter Try.func8, Try.ntmps8
  go_wp2_with (first
    | (at_lookup; refine wpList_look_g _ rfl _ _ 28 rfl 24 34 law24 Try.underlying28 (zero34 _) b2 n _ rfl hown _ _ rfl (keyOf_int_mk Try.underlying24 hd) _ _ _ _ HA.out HH.out ?_)
    | (at_range; refine wpList_range_own _ rfl _ 27 rfl 42 32 law42 Try.underlying27 _ b1 n _ rfl hown1 ?_; intro w0 hrg0 hg0 hs0)
    | go_in)
  go_frame
  rw [e1] at hrg0 hs0 ⊢
  have hv0 := vars0 hg0 hs0
  have hb0 : Below w.heap.size w w0 := (((((Below.refl _ _).alloc (Nat.le_refl _) _).alloc (by simp) _).alloc (by simp; omega) _).alloc (by simp; omega) _).grown hg0 (by simp; omega) (fun j hj => by cases hj)
  clear hown hown1 hg0 HA HH e1
  go_loopw [11] (fun f wr => ∃ (left : Lit → Bool) (cnt : Nat) (fb : Bool) (o : Ev), f = .bool fb ∧ wr.ranges Try.prog 42 (plainElem Try.prog 32) b1 (w.heap.size + 1 + 1 + 1 + 1) n (M1 l) left cnt ∧ Below w.heap.size w wr ∧ Vars wr w.heap.size o ∧ Seen l d srv left fb o)
    (fun _ wr => wr.rangeLeft b1 (w.heap.size + 1 + 1 + 1 + 1))
  case atStart =>
    refine ⟨_, _, false, (0, 0, 0), rfl, hrg0, hb0, hv0, Or.inl ⟨rfl, rfl, fun s q hs _ hq => ?_⟩⟩
    rw [(M1_at l hw d s hd hs).2, hq]; rfl
  case round =>
    obtain ⟨left, cnt, fb, ⟨o0, o1, o2⟩, rfl, hrg, hb, hv, hse⟩ := hrel
    go_wp2_with (first
      | (at_next; refine wpList_next_k _ rfl _ rfl b1 (w.heap.size + 1 + 1 + 1 + 1) n _ _ _ rfl hrg ?_ ?_)
      | go_in)
    · -- nothing is left
      intro _ hl0
      have hdn := hse.done hw hl0
      have HD : Hid (second (others l d srv) d = ((o0, o1, o2), fb)) := hdn
      clear hdn
      obtain ⟨hbig, ⟨v0, r0⟩, ⟨v1, r1⟩, ⟨v2, r2⟩, hf, c0, c1, c2, hg⟩ := hv
      go_wp2
      refine bodyPost_ret (v := ansV ((o0, o1, o2), fb)) (by simp [results, Try.results8, go_sem, ansV, r0, r1, r2]) rfl ⟨by rw [HD.out], ?_⟩
      exact ((hb.setCell (by simp) _).setCell (by simp) _).setCell (by simp) _
    · intro x y c w1 cnt1 hx hy hc hlx hat hrg1 hlt1 hg1 hs1 hen
      have hq : lastSeq l x y = some c := by
        have h1 := (M1_at l hw x y hx hy).1 .nil
        rw [hat] at h1
        cases hls : lastSeq l x y with
        | none => rw [hls] at h1; cases h1
        | some c' => rw [hls] at h1; simp [at1] at h1; rw [h1]
      have HQ : Hid (lastSeq l x y = some c) := hq
      clear hq hat
      have hv1 : Vars w1 w.heap.size (o0, o1, o2) := hv.grown hg1 (fun e => by have := Option.some.inj e; omega) (fun e => by have := Option.some.inj e; omega)
      have hb1 : Below w.heap.size w w1 := hb.grown hg1 hb.size (fun j hj => by cases hj; omega)
      have hbig := hv.big
      by_cases hxd : x = d
      · subst hxd
        by_cases hys : y = srv
        · subst hys
          go_wp2
          go_roundw
          case rel => exact ⟨_, cnt1, fb, (o0, o1, o2), rfl, hrg1.alloc _, hb1.alloc (by omega) _, hv1.grown (World.grownBy_alloc _ _ none) (by simp) (by simp), hse.skip hd hx hy (Or.inr rfl)⟩
          case measure => rw [(hrg1.alloc _).left_eq, hrg.left_eq]; exact hlt1
        · have hys1 : (y == srv) = false := by simpa using hys
          cases fb
          · have hv2 : Vars (w1.alloc (Obj.cells #[Value.int .u32 x, Value.int .u32 y] 42)) w.heap.size (o0, o1, o2) := hv1.grown (World.grownBy_alloc _ _ none) (by simp) (by simp)
            have hv2 : Vars (w1.alloc (Obj.cells #[Value.int .u32 x, Value.int .u32 y] 42)) w.heap.size (o0, o1, o2) := hv1.grown (World.grownBy_alloc _ _ none) (by simp) (by simp)
            have hv3 := hv2.put x y c
            have hrg3 := ranges_put (hrg1.alloc (Obj.cells #[Value.int .u32 x, Value.int .u32 y] 42)) (N := w.heap.size) (by omega) (by omega) (.int .u32 x) (.int .u32 y) (.int .u64 c)
            have hse3 := hse.take hd hy hys HQ.out
            obtain ⟨_, ⟨v0, r0⟩, ⟨v1, r1⟩, ⟨v2, r2⟩, hf, c0, c1, c2, hg⟩ := hv2
            go_wp2
            go_roundw
            case rel => exact ⟨_, cnt1, true, (x, y, c), rfl, hrg3, (((hb1.alloc (by omega) _).setCell (by simp; omega) _).setCell (by simp; omega) _).setCell (by simp; omega) _, hv3, hse3⟩
            case measure => rw [hrg3.left_eq, hrg.left_eq]; exact hlt1
          · have HC : Hid (second (others l x srv) x = ((0, 0, 0), false)) := hse.clash hys HQ.out hlx
            have hv2 : Vars (w1.alloc (Obj.cells #[Value.int .u32 x, Value.int .u32 y] 42)) w.heap.size (o0, o1, o2) := hv1.grown (World.grownBy_alloc _ _ none) (by simp) (by simp)
            obtain ⟨_, ⟨v0, r0⟩, ⟨v1, r1⟩, ⟨v2, r2⟩, hf, c0, c1, c2, hg⟩ := hv2
            go_wp2
            refine bodyPost_ret (v := ansV ((0, 0, 0), false)) (by simp [results, Try.results8, go_sem, ansV, r0, r1, r2]) rfl ⟨by rw [HC.out], ?_⟩
            exact (((hb1.alloc (by omega) _).setCell (by simp) _).setCell (by simp) _).setCell (by simp) _
      · have hxd1 : (x != d) = true := by simpa using hxd
        go_wp2
        go_roundw
        case rel => exact ⟨_, cnt1, fb, (o0, o1, o2), rfl, hrg1.alloc _, hb1.alloc (by omega) _, hv1.grown (World.grownBy_alloc _ _ none) (by simp) (by simp), hse.skip hd hx hy (Or.inl hxd)⟩
        case measure => rw [(hrg1.alloc _).left_eq, hrg.left_eq]; exact hlt1

end Go.Proofs.Qxb6632418a
