/- zzConv: the walk. -/
import Derived.Test.Qxb6632608aBase
namespace Go.Proofs.Qxb6632608a
open Go.RowKit
attribute [local go_sem ↓] Go.wp_at_zero Go.wp_at_succ

theorem Try.info33 : (Try.prog.info? 33).map (fun i => (i.zero, i.size, i.bytes)) = some (some (.agg #[.string ⟨#[]⟩, .int .i64 0, .bool false]), 3, 32) := by kernel_rfl

def Tm.vs (t : Tm) : List Value := [.string t.key, .int .i64 t.idx, .bool t.isx]
/-- The row that zzConv fills: block X, n terms' cells; the first k are filled. -/
structure Fil (w : World) (X n k : Nat) (ts : List Tm) : Prop where
  some : ∀ j, j < n * 3 → (w.cell? ⟨X, j, none⟩).isSome = true
  froz : ∀ j, w.frozen? ⟨X, j, none⟩ = false
  done : ∀ i (hi : i < ts.length), i < k → TmAt w X (i * 3) ts[i]
theorem Fil.put {w : World} {X n k : Nat} {ts : List Tm} (h : Fil w X n k ts) (hk : k < ts.length) (hn : ts.length = n) :
    Fil (w.setCells X (k * 3) [.string ts[k].key, .int .i64 ts[k].idx, .bool ts[k].isx]) X n (k + 1) ts := by
  have hin := World.cell?_setCells_in X [.string ts[k].key, .int .i64 ts[k].idx, .bool ts[k].isx] (k * 3) w (fun j hj => h.some _ (by simp at hj; omega))
  have hout := fun (q : Nat) (hq : q < k * 3 ∨ k * 3 + 3 ≤ q) => World.cell?_setCells_out X [.string ts[k].key, .int .i64 ts[k].idx, .bool ts[k].isx] (k * 3) w ⟨X, q, none⟩ (fun _ _ => by simpa using hq)
  refine ⟨fun j hj => ?_, fun j => ?_, fun i hi hik => ?_⟩
  · by_cases hq : j < k * 3 ∨ k * 3 + 3 ≤ j
    · rw [hout j hq]; exact h.some j hj
    · have := hin (j - k * 3) (by simp; omega)
      rw [show k * 3 + (j - k * 3) = j by omega] at this
      rw [this]; rfl
  · rw [World.frozen?_setCells]; exact h.froz j
  · by_cases e : i = k
    · subst e
      exact ⟨hin 0 (by simp), hin 1 (by simp), hin 2 (by simp)⟩
    · obtain ⟨b0, b1, b2⟩ := h.done i hi (by omega)
      exact ⟨(hout _ (by omega)).trans b0, (hout _ (by omega)).trans b1, (hout _ (by omega)).trans b2⟩

theorem below_setCells {B X : Nat} {a : World} : ∀ (vs : List Value) (o : Nat) (w : World), Below B a w → B ≤ X → Below B a (w.setCells X o vs)
  | [], _, _, h, _ => h
  | _ :: r, o, _, h, hX => below_setCells r (o + 1) _ (h.setCell hX _) hX

theorem mk26 (n : Nat) (hm : n ≤ 1048576) (W : World) : (Instr.makeSlice 26 (.int .i64 (n : Int)) (.int .i64 (n : Int))).run Try.prog W = .ok (.slice (some ⟨W.heap.size, 0, none⟩) n n) (W.alloc (.cells (madeCells #[.string ⟨#[]⟩, .int .i64 0, .bool false] (n * 3)) 33)) := by
  obtain ⟨i0, hi, hz0, hz1, hz2⟩ := info_parts Try.info33
  have := run_make (P := Try.prog) W 26 33 i0 _ Try.underlying26 hi hz0 .i64 .i64 n n (by omega) (Int.le_refl _) (by rw [hz2]; omega) (by omega)
  simpa [hz1, Value.cells] using this

theorem fil_new (W : World) (n : Nat) (z : Array Value) (t : TypeId) (ts : List Tm) : Fil (W.alloc (.cells (madeCells z (n * 3)) t)) W.heap.size n 0 ts := by
  have hb : (W.alloc (.cells (madeCells z (n * 3)) t)).heap[W.heap.size]? = some (.cells (madeCells z (n * 3)) t) := heap_alloc_new W _
  refine ⟨fun j hj => ?_, fun j => ?_, fun i hi hk => by omega⟩
  · rw [cell_of_row _ W.heap.size j _ t (0, 0) hb]
    simp [size_madeCells, hj]
  · unfold World.frozen?
    show (match (W.alloc (.cells (madeCells z (n * 3)) t)).heap[W.heap.size]? with | .some (.cells _ _ (lo, hi)) => decide (lo ≤ j) && decide (j < hi) | _ => false) = false
    rw [hb]
    simp

set_option maxHeartbeats 4000000 in
set_option maxRecDepth 100000 in
/-- zzConv of a slice that is not empty. -/
theorem cv_some (ts : List Tm) (b off n cap : Nat) (w : World) (hn : n = ts.length) (h0 : 0 < n) (h : TmsAt w b off ts) (hm : n ≤ 1048576) :
    Calls Try.prog 12 #[.slice (some ⟨b, off, none⟩) n cap] w fun e w' => ∃ X, e = .returned (.slice (some ⟨X, 0, none⟩) n n) ∧ TmsAt w' X 0 ts ∧ w.heap.size ≤ X ∧ Below w.heap.size w w' := by
  have hnil := fun W => Lib.run_eql_slice_nil (P := Try.prog) W 35 36 (some ⟨b, off, none⟩) n cap 0 0 Try.underlying35
  have hmk := mk26 n hm
  have hbl := (h 0 (by omega)).lt
  have HN : Hid (n = ts.length) := hn
  clear hn
  go_enter Try.func12, Try.ntmps12
  go_wp2
  have hfil := fil_new w n #[.string ⟨#[]⟩, .int .i64 0, .bool false] 33 ts
  have hb0 : Below w.heap.size w (w.alloc (.cells (madeCells #[.string ⟨#[]⟩, .int .i64 0, .bool false] (n * 3)) 33)) := (Below.refl _ _).alloc (Nat.le_refl _) _
  have hz0 : w.heap.size < (w.alloc (.cells (madeCells #[.string ⟨#[]⟩, .int .i64 0, .bool false] (n * 3)) 33)).heap.size := by simp
  generalize (w.alloc (.cells (madeCells #[.string ⟨#[]⟩, .int .i64 0, .bool false] (n * 3)) 33)) = w1 at hfil hb0 hz0 ⊢
  clear hmk hnil
  go_loopw [4] (fun vi wr => ∃ k : Nat, k ≤ n ∧ vi = .int .i64 k ∧ Fil wr w.heap.size n k ts ∧ Below w.heap.size w wr ∧ w.heap.size < wr.heap.size) (fun vi _ => n - (intOf vi).toNat)
  case atStart => exact ⟨0, Nat.zero_le _, rfl, hfil, hb0, hz0⟩
  case round =>
    clear hfil hb0 hz0
    obtain ⟨k, hk, rfl, hf, hb, hz⟩ := hrel
    by_cases hlt : k < n
    · have hkc : k < ts.length := by have := HN.out; omega
      obtain ⟨c0, c1, c2⟩ := (h k hkc).below hb hbl
      have hput := hf.put hkc HN.out.symm
      have hbp := below_setCells [.string ts[k].key, .int .i64 ts[k].idx, .bool ts[k].isx] (k * 3) wr hb (Nat.le_refl _)
      generalize ts[k] = c at c0 c1 c2 hput hbp
      have HPUT : Hid _ := hput
      have HBP : Hid _ := hbp
      clear hput hbp
      obtain ⟨v0, e0⟩ := Option.isSome_iff_exists.1 (hf.some (k * 3) (by omega))
      obtain ⟨v1, e1⟩ := Option.isSome_iff_exists.1 (hf.some (k * 3 + 1) (by omega))
      obtain ⟨v2, e2⟩ := Option.isSome_iff_exists.1 (hf.some (k * 3 + 2) (by omega))
      have f0 := hf.froz (k * 3)
      have f1 := hf.froz (k * 3 + 1)
      have f2 := hf.froz (k * 3 + 2)
      have i1 : (0 : Int) ≤ (k : Int) := by omega
      have i2 : (k : Int) < (n : Int) := by omega
      have _nb : ¬ b = w.heap.size := by omega
      go_wp2
      go_region_held3 (fun w' => w'.cell? ⟨b, off + k * 3, none⟩ = some (.string c.key) ∧ w'.cell? ⟨b, off + k * 3 + 1, none⟩ = some (.int .i64 c.idx) ∧ w'.cell? ⟨b, off + k * 3 + 2, none⟩ = some (.bool c.isx))
        (simp [go_sem, c0, c1, c2]) (fail)
      have hput := HPUT.out
      have hbp := HBP.out
      have hput2 : Fil ((((wr.setCell ⟨w.heap.size, k * 3, none⟩ (.string c.key)).setCell ⟨w.heap.size, k * 3 + 1, none⟩ (.int .i64 c.idx)).setCell ⟨w.heap.size, k * 3 + 2, none⟩ (.bool c.isx)).drew) w.heap.size n (k + 1) ts := ⟨hput.some, hput.froz, fun i hi hik => ⟨(hput.done i hi hik).c0, (hput.done i hi hik).c1, (hput.done i hi hik).c2⟩⟩
      have hbp2 : Below w.heap.size w ((((wr.setCell ⟨w.heap.size, k * 3, none⟩ (.string c.key)).setCell ⟨w.heap.size, k * 3 + 1, none⟩ (.int .i64 c.idx)).setCell ⟨w.heap.size, k * 3 + 2, none⟩ (.bool c.isx)).drew) := ⟨hbp.os, hbp.tape, hbp.output, hbp.size, hbp.block⟩
      clear hput hbp
      go_wp2
      go_roundw
      case rel => exact ⟨k + 1, by omega, by go_num, hput2, hbp2, by simpa [World.setCell] using hz⟩
      case measure => simp [intOf]; omega
    · have ek : k = n := by omega
      subst ek
      go_wp2
      go_ret
      refine ⟨w.heap.size, rfl, fun i hi => ?_, Nat.le_refl _, hb⟩
      rw [Nat.zero_add]
      exact hf.done i hi (by have := HN.out; omega)

set_option maxHeartbeats 1000000 in
/-- zzConv of an empty slice that is not nil. -/
theorem cv_zero (x : Addr) (cap : Nat) (w : World) :
    Calls Try.prog 12 #[.slice (some x) 0 cap] w fun e w' => ∃ X, e = .returned (.slice (some ⟨X, 0, none⟩) 0 0) ∧ Below w.heap.size w w' := by
  have hnil := fun W => Lib.run_eql_slice_nil (P := Try.prog) W 35 36 (some x) 0 cap 0 0 Try.underlying35
  have hmk : ∀ W : World, (Instr.makeSlice 26 (.int .i64 0) (.int .i64 0)).run Try.prog W = _ := fun W => mk26 0 (by omega) W
  go_enter Try.func12, Try.ntmps12
  go_wp2
  refine wp_loop_rounds 1 ?_
  rw [rounds_succ]
  go_wp2
  go_ret
  exact ⟨w.heap.size, rfl, (Below.refl _ _).alloc (Nat.le_refl _) _⟩

set_option maxHeartbeats 1000000 in
/-- zzConv of nil. -/
theorem cv_nil (n cap : Nat) (w : World) :
    Calls Try.prog 12 #[.slice none n cap] w fun e w' => e = .returned (.slice none 0 0) ∧ Below w.heap.size w w' := by
  have hnil := fun W => Lib.run_eql_slice_nil (P := Try.prog) W 35 36 none n cap 0 0 Try.underlying35
  go_enter Try.func12, Try.ntmps12
  go_wp2
  go_ret
  exact ⟨rfl, Below.refl _ _⟩

/-- zzConv. -/
theorem cv_any (ts : List Tm) (a : Option Addr) (n cap : Nat) (w : World) (h : Seg w a n ts) (hm : n ≤ 1048576) :
    Calls Try.prog 12 #[.slice a n cap] w fun e w' => ∃ a', e = .returned (.slice a' n n) ∧ SegB w' w.heap.size a' n ts ∧ Below w.heap.size w w' := by
  by_cases h0 : n = 0
  · have hcs : ts = [] := List.eq_nil_of_length_eq_zero (by have := h.1; omega)
    subst hcs
    subst h0
    cases a with
    | none =>
      refine (cv_nil 0 cap w).mono ?_
      rintro e w' ⟨rfl, hb⟩
      exact ⟨none, rfl, ⟨rfl, Or.inl rfl⟩, hb⟩
    | some x =>
      refine (cv_zero x cap w).mono ?_
      rintro e w' ⟨X, rfl, hb⟩
      exact ⟨_, rfl, ⟨rfl, Or.inl rfl⟩, hb⟩
  · obtain ⟨h1, h3 | ⟨b, off, rfl, h3⟩⟩ := h
    · exact absurd h3 h0
    · refine (cv_some ts b off n cap w h1 (by omega) h3 hm).mono ?_
      rintro e w' ⟨X, rfl, hc, hX, hb⟩
      exact ⟨_, rfl, ⟨h1, Or.inr ⟨X, rfl, hX, hc⟩⟩, hb⟩

end Go.Proofs.Qxb6632608a
