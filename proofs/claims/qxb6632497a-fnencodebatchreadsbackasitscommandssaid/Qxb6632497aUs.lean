/- binary.AppendUvarint onto an array of the caller's; uvarintSize, fieldSize, (Command).size. -/
import Derived.Test.Qxb6632497aUv
import Derived.Deep.RegionHeld3
import Derived.Deep.DrawnRows
namespace Go.Proofs.Qxb6632497a
open Go.RowKit
attribute [local go_sem ↓] Go.wp_at_zero Go.wp_at_succ

theorem cell_new1 (w : World) (t : TypeId) (v : Value) : (w.alloc (.cells #[v] t)).cell? ⟨w.heap.size, 0, none⟩ = some v := by simp [go_sem]

/-- append of one byte where there is room. -/
theorem wpList_app_room (w : World) {ops : Array Oper} {rest : List Oper} {o : Oper} {f : Act} {Q : Exit → Act → World → Prop} (hgd : o.guard = none) (s x : Operand)
    (ho : o.op = .call { callee := .builtin .append, args := #[s, x], argTypes := #[24, 24] })
    (g k cap : Nat) (hs : f.eval s = .slice (some ⟨g, 0, none⟩) k cap) (ad : Addr) (c : Nat) (q : Int) (hx : f.eval x = .slice (some ad) 1 c) (hq : w.cell? ad = some (.int .u8 q))
    (hroom : k + 1 ≤ cap) (hc : (w.cell? ⟨g, k, none⟩).isSome = true) (hf : w.frozen? ⟨g, k, none⟩ = false)
    (h : wpList Try.prog ops Q rest (f.put o.dst (.slice (some ⟨g, 0, none⟩) (k + 1) cap)) (w.setCell ⟨g, k, none⟩ (.int .u8 q))) : wpList Try.prog ops Q (o :: rest) f w := by
  refine wpList_plain hgd fun K hK => ?_
  obtain ⟨i0, hi, hz0, hz1, hz2⟩ := info_parts Try.info5
  have hr := run_append_room_cells (P := Try.prog) w 24 o.type 5 i0 Try.underlying24 hi g 0 k cap ad 1 c [.int .u8 q] (by rw [hz1]; rfl) (fun j u hu => by
      match j, hu with
      | 0, hu => simp at hu; subst hu; rw [show ad.add 0 = ad by simp [Addr.add]]; exact hq) (fun u hu => by simp at hu; subst hu; rfl) hroom
    (fun j hj => by
      have : j = 0 := by simpa using hj
      subst this
      rw [hz1]; simpa using hc)
    (fun j hj => by
      have : j = 0 := by simpa using hj
      subst this
      rw [hz1]; simpa using hf)
  rw [hz1, show 0 + k * 1 = k by omega] at hr
  unfold Oper.wp execOp
  simp only [ho, resolve, invoke, builtin, Sem.run_bind, Sem.run_pure, Result.andThen_ok, List.map_toArray, List.map_cons, List.map_nil, hs, hx, hr]
  exact hK _ _ h

/-- The array b of uvarintSize, written in the course of the call. -/
structure Arr (W wr : World) (g : Nat) : Prop where
  grown : W.grownBy wr (some g)
  lt : g < W.heap.size
  cells : ∀ j, j < 10 → (wr.cell? ⟨g, j, none⟩).isSome = true
  froz : ∀ j, wr.frozen? ⟨g, j, none⟩ = false
theorem Arr.alloc {W wr : World} {g : Nat} (h : Arr W wr g) (o : Obj) : Arr W (wr.alloc o) g := by
  have hs := h.grown.size
  have hlt := h.lt
  have k : (wr.alloc o).heap[g]? = wr.heap[g]? := Below.heap_alloc wr o g (by omega)
  exact ⟨⟨h.grown.os, h.grown.tape, h.grown.output, Nat.le_trans hs (by simp), fun i hi hne => (Below.heap_alloc wr o i (by omega)).trans (h.grown.block i hi hne)⟩, h.lt,
    fun j hj => by rw [World.cell?_of_block (w := wr) (a := ⟨g, j, none⟩) k]; exact h.cells j hj, fun j => by rw [World.frozen?_of_block (w := wr) (a := ⟨g, j, none⟩) k]; exact h.froz j⟩
theorem Arr.put {W wr : World} {g : Nat} (h : Arr W wr g) (k : Nat) (u : Value) : Arr W (wr.setCell ⟨g, k, none⟩ u) g := by
  refine ⟨⟨h.grown.os, h.grown.tape, h.grown.output, by simpa [World.setCell] using h.grown.size, fun i hi hne => ?_⟩, h.lt, fun j hj => ?_, fun j => ?_⟩
  · exact (Below.heap_setCell wr ⟨g, k, none⟩ u i (fun e => hne (by rw [e]))).trans (h.grown.block i hi hne)
  · obtain ⟨v, hv⟩ := Option.isSome_iff_exists.1 (h.cells j hj)
    obtain ⟨v', hv'⟩ := cell?_setCell_some (w := wr) (p := ⟨g, k, none⟩) (x := u) (q := ⟨g, j, none⟩) (v := v) hv
    rw [hv']; rfl
  · rw [World.frozen?_setCell]; exact h.froz j

set_option maxHeartbeats 2000000 in
set_option maxRecDepth 100000 in
theorem auv_arr (W : World) (g x : Nat) (hx : x < 18446744073709551616) (w : World) (harr : Arr W w g) :
    Calls Try.prog 18 #[.slice (some ⟨g, 0, none⟩) 0 10, .int .u64 x] w fun e w' => e = .returned (.slice (some ⟨g, 0, none⟩) (Lib.uvarint x).length 10) ∧ Arr W w' g := by
  have hlen := Lib.uvarint_length64 hx
  go_enter Try.func18, Try.ntmps18
  go_wp2
  go_loopw [0, 1] (fun vb vx wr => ∃ (y k : Nat), vb = .slice (some ⟨g, 0, none⟩) k 10 ∧ vx = .int .u64 y ∧ y ≤ x ∧ (Lib.uvarint x).length = k + (Lib.uvarint y).length ∧ Arr W wr g)
    (fun _ vx _ => (intOf vx).toNat)
  case atStart => exact ⟨x, 0, rfl, rfl, Nat.le_refl _, by omega, harr⟩
  case round =>
    obtain ⟨y, k, rfl, rfl, hy, hsplit, ha⟩ := hrel
    have hyp := Lib.uvarint_pos y
    have hk : k + 1 ≤ 10 := by omega
    have hlt := ha.lt
    have hs := ha.grown.size
    have HS : Hid ((Lib.uvarint x).length = k + (Lib.uvarint y).length) := hsplit
    clear hsplit
    by_cases h128 : 128 ≤ y
    · have HB : Hid ((Lib.uvarint y).length = 1 + (Lib.uvarint (y / 128)).length) := by
        show _ = _
        rw [Lib.uvarint_big h128, List.length_cons]; omega
      go_wp2_with (at_builtin; refine wpList_app_room _ rfl _ _ rfl g k 10 rfl _ 1 _ rfl (cell_new1 _ _ _) hk ?e2 ?e3 ?_; (case e2 => exact (ha.alloc _).cells k hk); (case e3 => exact (ha.alloc _).froz k))
      go_roundw
      case rel => exact ⟨y / 128, k + 1, rfl, by go_num, by omega, by rw [HS.out, HB.out]; omega, (ha.alloc _).put _ _⟩
      case measure => simp [intOf]; omega
    · have HB : Hid ((Lib.uvarint y).length = 1) := by
        show _ = _
        rw [Lib.uvarint_small (by omega)]; rfl
      go_wp2_with (at_builtin; refine wpList_app_room _ rfl _ _ rfl g k 10 rfl _ 1 _ rfl (cell_new1 _ _ _) hk ?e2 ?e3 ?_; (case e2 => exact (ha.alloc _).cells k hk); (case e3 => exact (ha.alloc _).froz k))
      go_ret
      refine ⟨?_, (ha.alloc _).put _ _⟩
      rw [HS.out, HB.out]; rfl

set_option maxHeartbeats 1000000 in
/-- uvarintSize. -/
theorem us_any (n : Nat) (hn : n < 9223372036854775808) (w : World) :
    Calls Try.prog 16 #[.int .i64 n] w fun e w' => e = .returned (.int .i64 ((Lib.uvarint n).length : Nat)) ∧ Below w.heap.size w w' := by
  have hA : ∀ c : Array Value, c = #[Value.int .u8 0, Value.int .u8 0, Value.int .u8 0, Value.int .u8 0, Value.int .u8 0, Value.int .u8 0, Value.int .u8 0, Value.int .u8 0, Value.int .u8 0, Value.int .u8 0] → Arr (w.alloc (.cells c 49)) (w.alloc (.cells c 49)) w.heap.size := by
    intro c hc
    subst hc
    refine ⟨⟨rfl, rfl, rfl, Nat.le_refl _, fun _ _ _ => rfl⟩, by simp, fun j hj => ?_, fun j => by simp [go_sem]⟩
    match j, hj with
    | 0, _ | 1, _ | 2, _ | 3, _ | 4, _ | 5, _ | 6, _ | 7, _ | 8, _ | 9, _ => simp [go_sem]
  have hlen := Lib.uvarint_length64 (x := n) (by omega)
  go_enter Try.func16, Try.ntmps16
  go_wp2_with (go_at_call 18; refine (auv_arr _ w.heap.size n (by omega) _ (hA _ rfl)).mono ?_; rintro e w' ⟨rfl, ha⟩)
  go_ret
  refine ⟨rfl, ?_⟩
  have hs := ha.grown.size
  simp at hs
  exact ⟨ha.grown.os, ha.grown.tape, ha.grown.output, by omega, fun i hi => (ha.grown.block i (by simp; omega) (fun e => by have := Option.some.inj e; omega)).trans (Below.heap_alloc w _ i hi)⟩

end Go.Proofs.Qxb6632497a
