/- toKV: the walk. -/
import Derived.Test.Qxb6632497aEntr
import Derived.WalkSpells
namespace Go.Proofs.Qxb6632497a
open Go.RowKit
attribute [local go_sem ↓] Go.wp_at_zero Go.wp_at_succ

theorem Try.info37 : (Try.prog.info? 37).map (fun i => (i.zero, i.size, i.bytes)) = some (some (.agg #[.int .u8 0, .slice none 0 0, .slice none 0 0, .slice none 0 0]), 4, 80) := by kernel_rfl

/-- The row that toKV fills: block X, n commands' cells; the first k are filled. -/
structure Fil (w : World) (X n k : Nat) (cs : List Cm) : Prop where
  some : ∀ j, j < n * 4 → (w.cell? ⟨X, j, none⟩).isSome = true
  froz : ∀ j, w.frozen? ⟨X, j, none⟩ = false
  done : ∀ i (hi : i < cs.length), i < k → BoxAt w X (i * 4) cs[i]
theorem Fil.put {w : World} {X n k : Nat} {cs : List Cm} (h : Fil w X n k cs) (hk : k < cs.length) (hn : cs.length = n) :
    Fil (w.setCells X (k * 4) [.int .u8 cs[k].pc.op.toNat, .slice cs[k].ka cs[k].kn cs[k].kc, .slice cs[k].pa cs[k].pn cs[k].pcap, .slice cs[k].va cs[k].vn cs[k].vc]) X n (k + 1) cs := by
  have hin := World.cell?_setCells_in X [.int .u8 cs[k].pc.op.toNat, .slice cs[k].ka cs[k].kn cs[k].kc, .slice cs[k].pa cs[k].pn cs[k].pcap, .slice cs[k].va cs[k].vn cs[k].vc] (k * 4) w (fun j hj => h.some _ (by simp at hj; omega))
  have hout := fun (q : Nat) (hq : q < k * 4 ∨ k * 4 + 4 ≤ q) => World.cell?_setCells_out X [.int .u8 cs[k].pc.op.toNat, .slice cs[k].ka cs[k].kn cs[k].kc, .slice cs[k].pa cs[k].pn cs[k].pcap, .slice cs[k].va cs[k].vn cs[k].vc] (k * 4) w ⟨X, q, none⟩ (fun _ _ => by simpa using hq)
  refine ⟨fun j hj => ?_, fun j => ?_, fun i hi hik => ?_⟩
  · by_cases hq : j < k * 4 ∨ k * 4 + 4 ≤ j
    · rw [hout j hq]; exact h.some j hj
    · have := hin (j - k * 4) (by simp; omega)
      rw [show k * 4 + (j - k * 4) = j by omega] at this
      rw [this]; rfl
  · rw [World.frozen?_setCells]; exact h.froz j
  · by_cases e : i = k
    · subst e
      exact ⟨hin 0 (by simp), hin 1 (by simp), hin 2 (by simp), hin 3 (by simp)⟩
    · obtain ⟨b0, b1, b2, b3⟩ := h.done i hi (by omega)
      exact ⟨(hout _ (by omega)).trans b0, (hout _ (by omega)).trans b1, (hout _ (by omega)).trans b2, (hout _ (by omega)).trans b3⟩

theorem below_setCells {B X : Nat} {a : World} : ∀ (vs : List Value) (o : Nat) (w : World), Below B a w → B ≤ X → Below B a (w.setCells X o vs)
  | [], _, _, h, _ => h
  | _ :: r, o, _, h, hX => below_setCells r (o + 1) _ (h.setCell hX _) hX

theorem CmdsAt.lt {w : World} {b off : Nat} {cs : List Cm} (h : CmdsAt w b off cs) (hn : 0 < cs.length) : b < w.heap.size := by
  have := (h 0 hn).1.c0
  apply Nat.lt_of_not_le
  intro hle
  simp [World.cell?, Array.getElem?_eq_none hle] at this

theorem mk26 (n : Nat) (hm : n ≤ 65536) (W : World) : (Instr.makeSlice 26 (.int .i64 (n : Int)) (.int .i64 (n : Int))).run Try.prog W = .ok (.slice (some ⟨W.heap.size, 0, none⟩) n n) (W.alloc (.cells (madeCells #[.int .u8 0, .slice none 0 0, .slice none 0 0, .slice none 0 0] (n * 4)) 37)) := by
  obtain ⟨i0, hi, hz0, hz1, hz2⟩ := info_parts Try.info37
  have := run_make (P := Try.prog) W 26 37 i0 _ Try.underlying26 hi hz0 .i64 .i64 n n (by omega) (Int.le_refl _) (by rw [hz2]; omega) (by omega)
  simpa [hz1, Value.cells] using this

theorem fil_new (W : World) (n : Nat) (z : Array Value) (t : TypeId) (cs : List Cm) : Fil (W.alloc (.cells (madeCells z (n * 4)) t)) W.heap.size n 0 cs := by
  have hb : (W.alloc (.cells (madeCells z (n * 4)) t)).heap[W.heap.size]? = some (.cells (madeCells z (n * 4)) t) := heap_alloc_new W _
  refine ⟨fun j hj => ?_, fun j => ?_, fun i hi hk => by omega⟩
  · rw [cell_of_row _ W.heap.size j _ t (0, 0) hb]
    simp [size_madeCells, hj]
  · unfold World.frozen?
    show (match (W.alloc (.cells (madeCells z (n * 4)) t)).heap[W.heap.size]? with | .some (.cells _ _ (lo, hi)) => decide (lo ≤ j) && decide (j < hi) | _ => false) = false
    rw [hb]
    simp

set_option maxHeartbeats 4000000 in
set_option maxRecDepth 100000 in
/-- toKV of a slice that is not empty. -/
theorem kv_some (cs : List Cm) (b off n cap : Nat) (w : World) (hn : n = cs.length) (h0 : 0 < n) (h : CmdsAt w b off cs) (hm : n ≤ 65536) :
    Calls Try.prog 8 #[.slice (some ⟨b, off, none⟩) n cap] w fun e w' => ∃ X, e = .returned (.slice (some ⟨X, 0, none⟩) n n) ∧ CmdsAt w' X 0 cs ∧ Below w.heap.size w w' := by
  have hnil := fun W => Lib.run_eql_slice_nil (P := Try.prog) W 22 30 (some ⟨b, off, none⟩) n cap 0 0 Try.underlying22
  have hmk := mk26 n hm
  have hbl := h.lt (by omega)
  have HN : Hid (n = cs.length) := hn
  clear hn
  go_enter Try.func8, Try.ntmps8
  go_wp2
  have hfil := fil_new w n #[.int .u8 0, .slice none 0 0, .slice none 0 0, .slice none 0 0] 37 cs
  have hb0 : Below w.heap.size w (w.alloc (.cells (madeCells #[.int .u8 0, .slice none 0 0, .slice none 0 0, .slice none 0 0] (n * 4)) 37)) := (Below.refl _ _).alloc (Nat.le_refl _) _
  have hz0 : w.heap.size < (w.alloc (.cells (madeCells #[.int .u8 0, .slice none 0 0, .slice none 0 0, .slice none 0 0] (n * 4)) 37)).heap.size := by simp
  generalize (w.alloc (.cells (madeCells #[.int .u8 0, .slice none 0 0, .slice none 0 0, .slice none 0 0] (n * 4)) 37)) = w1 at hfil hb0 hz0 ⊢
  clear hmk hnil
  go_loopw [4] (fun vi wr => ∃ k : Nat, k ≤ n ∧ vi = .int .i64 k ∧ Fil wr w.heap.size n k cs ∧ Below w.heap.size w wr ∧ w.heap.size < wr.heap.size) (fun vi _ => n - (intOf vi).toNat)
  case atStart => exact ⟨0, Nat.zero_le _, rfl, hfil, hb0, hz0⟩
  case round =>
    clear hfil hb0 hz0
    obtain ⟨k, hk, rfl, hf, hb, hz⟩ := hrel
    by_cases hlt : k < n
    · have hkc : k < cs.length := by have := HN.out; omega
      obtain ⟨c0, c1, c2, c3⟩ := (h k hkc).1.below hb hbl
      have hput := hf.put hkc HN.out.symm
      have hbp := below_setCells [.int .u8 cs[k].pc.op.toNat, .slice cs[k].ka cs[k].kn cs[k].kc, .slice cs[k].pa cs[k].pn cs[k].pcap, .slice cs[k].va cs[k].vn cs[k].vc] (k * 4) wr hb (Nat.le_refl _)
      generalize cs[k] = c at c0 c1 c2 c3 hput hbp
      have HPUT : Hid _ := hput
      have HBP : Hid _ := hbp
      clear hput hbp
      obtain ⟨v0, e0⟩ := Option.isSome_iff_exists.1 (hf.some (k * 4) (by omega))
      obtain ⟨v1, e1⟩ := Option.isSome_iff_exists.1 (hf.some (k * 4 + 1) (by omega))
      obtain ⟨v2, e2⟩ := Option.isSome_iff_exists.1 (hf.some (k * 4 + 2) (by omega))
      obtain ⟨v3, e3⟩ := Option.isSome_iff_exists.1 (hf.some (k * 4 + 3) (by omega))
      have f0 := hf.froz (k * 4)
      have f1 := hf.froz (k * 4 + 1)
      have f2 := hf.froz (k * 4 + 2)
      have f3 := hf.froz (k * 4 + 3)
      have i1 : (0 : Int) ≤ (k : Int) := by omega
      have i2 : (k : Int) < (n : Int) := by omega
      have _nb : ¬ b = w.heap.size := by omega
      go_wp2
      go_region_held3 (fun w' => w'.cell? ⟨b, off + k * 4, none⟩ = some (.int .u8 c.pc.op.toNat) ∧ w'.cell? ⟨b, off + k * 4 + 1, none⟩ = some (.slice c.ka c.kn c.kc) ∧ w'.cell? ⟨b, off + k * 4 + 2, none⟩ = some (.slice c.pa c.pn c.pcap) ∧ w'.cell? ⟨b, off + k * 4 + 3, none⟩ = some (.slice c.va c.vn c.vc))
        (simp [go_sem, c0, c1, c2, c3]) (fail)
      have hput := HPUT.out
      have hbp := HBP.out
      have hput2 : Fil (((((wr.setCell ⟨w.heap.size, k * 4, none⟩ (.int .u8 c.pc.op.toNat)).setCell ⟨w.heap.size, k * 4 + 1, none⟩ (.slice c.ka c.kn c.kc)).setCell ⟨w.heap.size, k * 4 + 2, none⟩ (.slice c.pa c.pn c.pcap)).setCell ⟨w.heap.size, k * 4 + 3, none⟩ (.slice c.va c.vn c.vc)).drew) w.heap.size n (k + 1) cs := ⟨hput.some, hput.froz, fun i hi hik => ⟨(hput.done i hi hik).c0, (hput.done i hi hik).c1, (hput.done i hi hik).c2, (hput.done i hi hik).c3⟩⟩
      have hbp2 : Below w.heap.size w (((((wr.setCell ⟨w.heap.size, k * 4, none⟩ (.int .u8 c.pc.op.toNat)).setCell ⟨w.heap.size, k * 4 + 1, none⟩ (.slice c.ka c.kn c.kc)).setCell ⟨w.heap.size, k * 4 + 2, none⟩ (.slice c.pa c.pn c.pcap)).setCell ⟨w.heap.size, k * 4 + 3, none⟩ (.slice c.va c.vn c.vc)).drew) := ⟨hbp.os, hbp.tape, hbp.output, hbp.size, hbp.block⟩
      clear hput hbp
      go_wp2
      go_roundw
      case rel => exact ⟨k + 1, by omega, by go_num, hput2, hbp2, by simpa [World.setCell] using hz⟩
      case measure => simp [intOf]; omega
    · have ek : k = n := by omega
      subst ek
      go_wp2
      go_ret
      refine ⟨w.heap.size, rfl, fun i hi => ⟨?_, ?_⟩, hb⟩
      · rw [Nat.zero_add]
        exact hf.done i hi (by have := HN.out; omega)
      · exact ((h i hi).2.below hb).mono (by omega)

set_option maxHeartbeats 1000000 in
/-- toKV of an empty slice that is not nil. -/
theorem kv_zero (x : Addr) (cap : Nat) (w : World) :
    Calls Try.prog 8 #[.slice (some x) 0 cap] w fun e w' => ∃ X, e = .returned (.slice (some ⟨X, 0, none⟩) 0 0) ∧ Below w.heap.size w w' := by
  have hnil := fun W => Lib.run_eql_slice_nil (P := Try.prog) W 22 30 (some x) 0 cap 0 0 Try.underlying22
  have hmk : ∀ W : World, (Instr.makeSlice 26 (.int .i64 0) (.int .i64 0)).run Try.prog W = _ := fun W => mk26 0 (by omega) W
  go_enter Try.func8, Try.ntmps8
  go_wp2
  refine wp_loop_rounds 1 ?_
  rw [rounds_succ]
  go_wp2
  go_ret
  exact ⟨w.heap.size, rfl, (Below.refl _ _).alloc (Nat.le_refl _) _⟩

set_option maxHeartbeats 1000000 in
/-- toKV of nil. -/
theorem kv_nil (n cap : Nat) (w : World) :
    Calls Try.prog 8 #[.slice none n cap] w fun e w' => e = .returned (.slice none 0 0) ∧ Below w.heap.size w w' := by
  have hnil := fun W => Lib.run_eql_slice_nil (P := Try.prog) W 22 30 none n cap 0 0 Try.underlying22
  go_enter Try.func8, Try.ntmps8
  go_wp2
  go_ret
  exact ⟨rfl, Below.refl _ _⟩

/-- toKV. -/
theorem kv_any (cs : List Cm) (a : Option Addr) (n cap : Nat) (w : World) (h : Cmds w a n cs) (hm : n ≤ 65536) :
    Calls Try.prog 8 #[.slice a n cap] w fun e w' => ∃ a', e = .returned (.slice a' n n) ∧ Cmds w' a' n cs ∧ Below w.heap.size w w' := by
  by_cases h0 : n = 0
  · have hcs : cs = [] := List.eq_nil_of_length_eq_zero (by have := h.1; omega)
    subst hcs
    subst h0
    cases a with
    | none =>
      refine (kv_nil 0 cap w).mono ?_
      rintro e w' ⟨rfl, hb⟩
      exact ⟨none, rfl, ⟨rfl, by omega, Or.inl rfl⟩, hb⟩
    | some x =>
      refine (kv_zero x cap w).mono ?_
      rintro e w' ⟨X, rfl, hb⟩
      exact ⟨_, rfl, ⟨rfl, by omega, Or.inl rfl⟩, hb⟩
  · obtain ⟨h1, h2, h3 | ⟨b, off, rfl, h3⟩⟩ := h
    · exact absurd h3 h0
    · refine (kv_some cs b off n cap w h1 (by omega) h3 hm).mono ?_
      rintro e w' ⟨X, rfl, hc, hb⟩
      exact ⟨_, rfl, ⟨h1, h2, Or.inr ⟨X, 0, rfl, hc⟩⟩, hb⟩

end Go.Proofs.Qxb6632497a
