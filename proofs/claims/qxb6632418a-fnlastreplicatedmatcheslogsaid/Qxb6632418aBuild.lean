/- LastReplicated whole; zzBuildState: the walk. -/
import Derived.Test.Qxb6632418aLrSelf
import Derived.Deep.RegionHeld3
import Derived.Deep.DrawnRows
namespace Go.Proofs.Qxb6632418a
open Go.RowKit Go.Maps Logs
attribute [local go_sem ↓] Go.wp_at_zero Go.wp_at_succ

/-- (GTIDState).LastReplicated. -/
theorem lr_any (w : World) (b1 b2 n : Nat) (l : List Ev) (d srv : Int) (h : St w b1 b2 n (M1 l) (M2 l)) (hw : WfEv l) (hd : U32 d) :
    Calls Try.prog 8 #[.agg #[.map (some b1), .map (some b2)], .int .u32 d, .int .u32 srv] w fun e w' => e = .returned (ansV (lr l d srv)) ∧ Below w.heap.size w w' := by
  cases hl : latest l d with
  | none =>
    have e : lr l d srv = ((0, 0, 0), false) := by unfold lr; rw [hl]
    rw [e]
    exact lr_none w b1 b2 n l d srv h hd hl
  | some sq =>
    obtain ⟨s, q⟩ := sq
    by_cases hs : s = srv
    · subst hs
      have e : lr l d s = second (others l d s) d := by unfold lr; rw [hl]; simp
      rw [e]
      exact lr_self w b1 b2 n l d s q h hw hd hl
    · have e : lr l d srv = ((d, s, q), true) := by unfold lr; rw [hl]; simp [hs]
      rw [e]
      exact lr_other w b1 b2 n l d srv s q h hd hl (by simpa using hs)

/-- What the walks are told of a column. -/
def Col (k : IntKind) (w : World) (b off n : Nat) (f : Nat → Int) : Prop := ∀ i, i < n → w.cell? ⟨b, off + i, none⟩ = some (.int k (f i)) ∧ (Lit.int k (f i)).wf = true
theorem Col.lt {k : IntKind} {w : World} {b off n : Nat} {f : Nat → Int} (h : Col k w b off n f) (hn : 0 < n) : b < w.heap.size := by
  have := (h 0 hn).1
  apply Nat.lt_of_not_le
  intro hle
  simp [World.cell?, Array.getElem?_eq_none hle] at this
theorem Col.below {k : IntKind} {w w' : World} {b off n B : Nat} {f : Nat → Int} (h : Col k w b off n f) (hb : Below B w w') (hlt : b < B) : Col k w' b off n f := fun i hi => ⟨(hb.cell (p := ⟨b, off + i, none⟩) hlt).trans (h i hi).1, (h i hi).2⟩
theorem wf_ev {w : World} {p0 o0 p1 o1 p2 o2 n : Nat} {f g h : Nat → Int} (h0 : Col .u32 w p0 o0 n f) (h1 : Col .u32 w p1 o1 n g) (h2 : Col .u64 w p2 o2 n h) : WfEv (ev f g h n) := by
  intro e he
  obtain ⟨i, hi, rfl⟩ := List.mem_map.1 he
  have hi := List.mem_range.1 hi
  exact ⟨(h0 i hi).2, (h1 i hi).2, (h2 i hi).2⟩

/-- The call's own variables: the result's (block N) and 's' (block S). -/
structure BV (wr : World) (N S b1 b2 : Nat) : Prop where
  n1 : N < b1
  n2 : N < b2
  s1 : b1 < S
  s2 : b2 < S
  big : S < wr.heap.size
  r0 : ∃ v, wr.cell? ⟨N, 0, none⟩ = some v
  r1 : ∃ v, wr.cell? ⟨N, 1, none⟩ = some v
  f : ∀ i, wr.frozen? ⟨N, i, none⟩ = false
  c0 : wr.cell? ⟨S, 0, none⟩ = some (.map (some b1))
  c1 : wr.cell? ⟨S, 1, none⟩ = some (.map (some b2))
theorem BV.kept {wr w' : World} {N S b1 b2 : Nat} (h : BV wr N S b1 b2) (hk : Kept b1 b2 wr w') : BV w' N S b1 b2 := by
  obtain ⟨n1, n2, s1, s2, big, r0, r1, f, c0, c1⟩ := h
  have eN : ∀ i, w'.cell? ⟨N, i, none⟩ = wr.cell? ⟨N, i, none⟩ := fun i => hk.cell (p := ⟨N, i, none⟩) (by simp; omega) (by simp; omega) (by simp; omega)
  have eS : ∀ i, w'.cell? ⟨S, i, none⟩ = wr.cell? ⟨S, i, none⟩ := fun i => hk.cell (p := ⟨S, i, none⟩) (by simp; omega) (by simp; omega) (by simp; omega)
  have fN : ∀ i, w'.frozen? ⟨N, i, none⟩ = wr.frozen? ⟨N, i, none⟩ := fun i => hk.frozen (p := ⟨N, i, none⟩) (by simp; omega) (by simp; omega) (by simp; omega)
  exact ⟨n1, n2, s1, s2, Nat.lt_of_lt_of_le big hk.size, by rw [eN]; exact r0, by rw [eN]; exact r1, fun i => by rw [fN]; exact f i, by rw [eS]; exact c0, by rw [eS]; exact c1⟩
theorem Kept.drewN {b1 b2 : Nat} {w w' : World} (h : Kept b1 b2 w.drew w') : Kept b1 b2 w w' := ⟨h.os, h.tape, h.output, h.size, h.block⟩

theorem bv_mk {w w1 : World} {b1 b2 : Nat} (hst : St w1 b1 b2 0 (.map []) (.map [])) (hb1 : w.heap.size + 1 ≤ b1) (hb2 : w.heap.size + 1 ≤ b2) (hz : w.heap.size + 1 ≤ w1.heap.size) (hbe : Below (w.alloc (Obj.cells #[Value.map none, Value.map none] 30)).heap.size (w.alloc (Obj.cells #[Value.map none, Value.map none] 30)) w1) :
    BV (w1.alloc (Obj.cells #[Value.map (some b1), Value.map (some b2)] 30)) w.heap.size w1.heap.size b1 b2 := by
  have hltb := hst.lt
  have k0 : ∀ i, w1.cell? ⟨w.heap.size, i, none⟩ = _ := fun i => hbe.cell (p := ⟨w.heap.size, i, none⟩) (by simp)
  have k1 : ∀ i, w1.frozen? ⟨w.heap.size, i, none⟩ = _ := fun i => hbe.frozen (p := ⟨w.heap.size, i, none⟩) (by simp)
  have q0 : ∀ i, (w1.alloc (Obj.cells #[Value.map (some b1), Value.map (some b2)] 30)).cell? ⟨w.heap.size, i, none⟩ = w1.cell? ⟨w.heap.size, i, none⟩ := fun i => World.cell?_of_block (Below.heap_alloc _ _ _ (by simp; omega))
  have q1 : ∀ i, (w1.alloc (Obj.cells #[Value.map (some b1), Value.map (some b2)] 30)).frozen? ⟨w.heap.size, i, none⟩ = w1.frozen? ⟨w.heap.size, i, none⟩ := fun i => World.frozen?_of_block (Below.heap_alloc _ _ _ (by simp; omega))
  refine ⟨by omega, by omega, hltb.1, hltb.2, by simp, ⟨.map none, ?_⟩, ⟨.map none, ?_⟩, fun i => ?_, ?_, ?_⟩
  · rw [q0, k0]; simp [go_sem]
  · rw [q0, k0]; simp [go_sem]
  · rw [q1, k1]; simp [go_sem]
  · simp [go_sem]
  · simp [go_sem]

set_option maxHeartbeats 1000000 in
set_option maxRecDepth 100000 in
/-- zzBuildState. -/
theorem build_some (w : World) (p0 o0 p1 o1 p2 o2 n0 c0 n1 c1 n2 c2 n : Nat) (f g h : Nat → Int) (hn : 0 < n) (hm : n ≤ 65536) (hn0 : n ≤ n0) (hn1 : n ≤ n1) (hn2 : n ≤ n2)
    (h0 : Col .u32 w p0 o0 n f) (h1 : Col .u32 w p1 o1 n g) (h2 : Col .u64 w p2 o2 n h) :
    Calls Try.prog 7 #[.slice (some ⟨p0, o0, none⟩) n0 c0, .slice (some ⟨p1, o1, none⟩) n1 c1, .slice (some ⟨p2, o2, none⟩) n2 c2, .int .i64 n] w fun e w' =>
      ∃ b1 b2, e = .returned (.agg #[.map (some b1), .map (some b2)]) ∧ St w' b1 b2 n (M1 (ev f g h n)) (M2 (ev f g h n)) ∧ w.heap.size ≤ b1 ∧ w.heap.size ≤ b2 ∧ Below w.heap.size w w' := by
  have l0 := h0.lt hn
  have l1 := h1.lt hn
  have l2 := h2.lt hn
  go_enter Try.func7, Try.ntmps7
  go_wp2_with (go_at_call 12; refine (new_any _).mono ?_; rintro e w1 ⟨b1, b2, rfl, hst, hb1, hb2, hbe⟩)
  have hst1 : St (w1.alloc (Obj.cells #[Value.map (some b1), Value.map (some b2)] 30)) b1 b2 0 (.map []) (.map []) := ⟨hst.last.alloc _, hst.latest.alloc _, hst.ne⟩
  have hltb := hst.lt
  have hz := hbe.size
  simp at hb1 hb2 hz
  have hbv := bv_mk hst hb1 hb2 hz hbe
  have hb0 : Below w.heap.size w (w1.alloc (Obj.cells #[Value.map (some b1), Value.map (some b2)] 30)) := (((Below.refl _ _).alloc (Nat.le_refl _) _).trans (hbe.mono (by simp))).alloc (by omega) _
  generalize (w1.alloc (Obj.cells #[Value.map (some b1), Value.map (some b2)] 30)) = w2 at hst1 hbv hb0 ⊢
  generalize w1.heap.size = S at *
  clear hst hbe
  go_loopw [10] (fun i wr => ∃ k : Nat, k ≤ n ∧ i = .int .i64 k ∧ St wr b1 b2 k (M1 (ev f g h k)) (M2 (ev f g h k)) ∧ BV wr w.heap.size S b1 b2 ∧ Below w.heap.size w wr) (fun i _ => n - (intOf i).toNat)
  case atStart => exact ⟨0, Nat.zero_le _, rfl, hst1, hbv, hb0⟩
  case round =>
    obtain ⟨k, hk, rfl, hs, hv, hb⟩ := hrel
    have hv' := hv
    obtain ⟨v1, v2, v3, v4, v5, ⟨u0, r0⟩, ⟨u1, r1⟩, hf, q0, q1⟩ := hv
    by_cases hlt : k < n
    · have e0 := ((h0.below hb l0) k hlt).1
      have e1 := ((h1.below hb l1) k hlt).1
      have e2 := ((h2.below hb l2) k hlt).1
      have i1 : (0 : Int) ≤ (k : Int) := by omega
      have i2 : (k : Int) < (n0 : Int) := by omega
      have i3 : (k : Int) < (n1 : Int) := by omega
      have i4 : (k : Int) < (n2 : Int) := by omega
      have hkeep : ∀ w', Kept b1 b2 wr w' → w'.cell? ⟨S, 0, none⟩ = some (.map (some b1)) ∧ w'.cell? ⟨S, 1, none⟩ = some (.map (some b2)) ∧ w'.cell? ⟨p0, o0 + k, none⟩ = some (.int .u32 (f k)) ∧ w'.cell? ⟨p1, o1 + k, none⟩ = some (.int .u32 (g k)) ∧ w'.cell? ⟨p2, o2 + k, none⟩ = some (.int .u64 (h k)) := fun w' hk =>
        ⟨(hk.cell (by simp; omega) (by simp; omega) (by simp; omega)).trans q0, (hk.cell (by simp; omega) (by simp; omega) (by simp; omega)).trans q1, (hk.cell (by simp; omega) (by simp; omega) (by simp; omega)).trans e0, (hk.cell (by simp; omega) (by simp; omega) (by simp; omega)).trans e1, (hk.cell (by simp; omega) (by simp; omega) (by simp; omega)).trans e2⟩
      go_wp2
      go_region_held3 (fun w' => w'.cell? ⟨S, 0, none⟩ = some (.map (some b1)) ∧ w'.cell? ⟨S, 1, none⟩ = some (.map (some b2)) ∧ w'.cell? ⟨p0, o0 + k, none⟩ = some (.int .u32 (f k)) ∧ w'.cell? ⟨p1, o1 + k, none⟩ = some (.int .u32 (g k)) ∧ w'.cell? ⟨p2, o2 + k, none⟩ = some (.int .u64 (h k))) (first | (exact hkeep _ hk2.drewN) | (go_keep; done))
        ((go_at_call 11; refine (rec_any _ b1 b2 k (M1 (ev f g h k)) (M2 (ev f g h k)) (f k) (g k) (h k) (h0 k hlt).2 (h1 k hlt).2 (h2 k hlt).2 (by unfold maxLen; omega) ?_).mono ?_; (exact ⟨hs.last.drew, hs.latest.drew, hs.ne⟩); rintro e w' ⟨rfl, hs2, hk2⟩))
      go_wp2
      go_roundw
      case rel => exact ⟨k + 1, by omega, by go_num, by rw [ev_succ, M1_snoc, M2_snoc]; exact hs2, hv'.kept hk2.drewN, hb.trans (hk2.drewN.below (by omega) (by omega) (by omega))⟩
      case measure => simp [intOf]; omega
    · have ek : k = n := by omega
      subst ek
      go_wp2
      refine bodyPost_ret (v := .agg #[.map (some b1), .map (some b2)]) (by simp [results, Try.results7, go_sem, r0, r1]) rfl ⟨b1, b2, rfl, ⟨(hs.last.setCell (by simp; omega) _).setCell (by simp; omega) _, (hs.latest.setCell (by simp; omega) _).setCell (by simp; omega) _, hs.ne⟩, by omega, by omega, (hb.setCell (by simp) _).setCell (by simp) _⟩

set_option maxHeartbeats 1000000 in
/-- .. of no event. -/
theorem build_zero (w : World) (a0 a1 a2 : Option Addr) (n0 c0 n1 c1 n2 c2 : Nat) (f g h : Nat → Int) :
    Calls Try.prog 7 #[.slice a0 n0 c0, .slice a1 n1 c1, .slice a2 n2 c2, .int .i64 0] w fun e w' =>
      ∃ b1 b2, e = .returned (.agg #[.map (some b1), .map (some b2)]) ∧ St w' b1 b2 0 (M1 (ev f g h 0)) (M2 (ev f g h 0)) ∧ w.heap.size ≤ b1 ∧ w.heap.size ≤ b2 ∧ Below w.heap.size w w' := by
  go_enter Try.func7, Try.ntmps7
  go_wp2_with (go_at_call 12; refine (new_any _).mono ?_; rintro e w1 ⟨b1, b2, rfl, hst, hb1, hb2, hbe⟩)
  have hst1 : St (w1.alloc (Obj.cells #[Value.map (some b1), Value.map (some b2)] 30)) b1 b2 0 (.map []) (.map []) := ⟨hst.last.alloc _, hst.latest.alloc _, hst.ne⟩
  have hltb := hst.lt
  have hz := hbe.size
  simp at hb1 hb2 hz
  have hbv := bv_mk hst hb1 hb2 hz hbe
  have hb0 : Below w.heap.size w (w1.alloc (Obj.cells #[Value.map (some b1), Value.map (some b2)] 30)) := (((Below.refl _ _).alloc (Nat.le_refl _) _).trans (hbe.mono (by simp))).alloc (by omega) _
  generalize (w1.alloc (Obj.cells #[Value.map (some b1), Value.map (some b2)] 30)) = w2 at hst1 hbv hb0 ⊢
  generalize w1.heap.size = S at *
  clear hst hbe
  obtain ⟨v1, v2, v3, v4, v5, ⟨u0, r0⟩, ⟨u1, r1⟩, hf, q0, q1⟩ := hbv
  refine wp_loop_rounds 1 ?_
  rw [rounds_succ]
  go_wp2
  refine bodyPost_ret (v := .agg #[.map (some b1), .map (some b2)]) (by simp [results, Try.results7, go_sem, r0, r1]) rfl ⟨b1, b2, rfl, ⟨(hst1.last.setCell (by simp; omega) _).setCell (by simp; omega) _, (hst1.latest.setCell (by simp; omega) _).setCell (by simp; omega) _, hst1.ne⟩, by omega, by omega, (hb0.setCell (by simp) _).setCell (by simp) _⟩

end Go.Proofs.Qxb6632418a
