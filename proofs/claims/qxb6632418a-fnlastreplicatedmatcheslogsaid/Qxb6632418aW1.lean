/- The small functions of the seat: the bound on the lengths, the log's length, a new state, one record. -/
import Derived.Test.Qxb6632418aBase
namespace Go.Proofs.Qxb6632418a
open Go.RowKit Go.Maps

theorem ret_int {k : IntKind} {a b : Int} (h : a = b) : Ending.returned (.int k a) = .returned (.int k b) := by rw [h]

/-- zzLogLen. -/
theorem len_any (a0 a1 a2 : Option Addr) (n0 c0 n1 c1 n2 c2 : Nat) (w : World) (_h0 : n0 ≤ 65536) (_h1 : n1 ≤ 65536) (_h2 : n2 ≤ 65536) :
    Calls Try.prog 6 #[.slice a0 n0 c0, .slice a1 n1 c1, .slice a2 n2 c2] w fun e w' => e = .returned (.int .i64 ((min n0 (min n1 n2) : Nat) : Int)) ∧ w = w' := by
  by_cases g1 : n1 < n0
  · by_cases g2 : n2 < n1
    · go_enter Try.func6, Try.ntmps6
      go_wp2
      go_ret
      exact ⟨ret_int (by omega), rfl⟩
    · go_enter Try.func6, Try.ntmps6
      go_wp2
      go_ret
      exact ⟨ret_int (by omega), rfl⟩
  · by_cases g2 : n2 < n0
    · go_enter Try.func6, Try.ntmps6
      go_wp2
      go_ret
      exact ⟨ret_int (by omega), rfl⟩
    · go_enter Try.func6, Try.ntmps6
      go_wp2
      go_ret
      exact ⟨ret_int (by omega), rfl⟩

/-- The two bounds laid by program: they answer some bool, and turn nothing. -/
theorem bytes5_any (a0 a1 a2 : Option Addr) (n0 c0 n1 c1 n2 c2 : Nat) (d s : Int) (w : World) (h0 : n0 ≤ maxLen) (h1 : n1 ≤ maxLen) (h2 : n2 ≤ maxLen) :
    Calls Try.prog 5 #[.slice a0 n0 c0, .slice a1 n1 c1, .slice a2 n2 c2, .int .u32 d, .int .u32 s] w fun e w' => ∃ b, e = .returned (.bool b) ∧ w = w' := by
  unfold maxLen at h0 h1 h2
  go_enter Try.func5, Try.ntmps5
  go_wp2
  all_goals (go_ret; exact ⟨_, rfl, rfl⟩)
theorem bytes10_any (a0 a1 a2 : Option Addr) (n0 c0 n1 c1 n2 c2 : Nat) (d s q d' s' : Int) (w : World) (h0 : n0 ≤ maxLen) (h1 : n1 ≤ maxLen) (h2 : n2 ≤ maxLen) :
    Calls Try.prog 10 #[.slice a0 n0 c0, .slice a1 n1 c1, .slice a2 n2 c2, .int .u32 d, .int .u32 s, .int .u64 q, .int .u32 d', .int .u32 s'] w fun e w' => ∃ b, e = .returned (.bool b) ∧ w = w' := by
  unfold maxLen at h0 h1 h2
  go_enter Try.func10, Try.ntmps10
  go_wp2
  all_goals (go_ret; exact ⟨_, rfl, rfl⟩)

/-- A state: block b1 is 'last', block b2 is 'latest'. -/
structure St (w : World) (b1 b2 n : Nat) (D1 D2 : DataW Unit) : Prop where
  last : w.ownsMap Try.prog 42 (plainElem Try.prog 32) b1 n D1
  latest : w.ownsMap Try.prog 24 gElem b2 n D2
  ne : b1 ≠ b2
theorem St.below {w w' : World} {b1 b2 n B : Nat} {D1 D2 : DataW Unit} (h : St w b1 b2 n D1 D2) (hb : Below B w w') (h1 : b1 < B) (h2 : b2 < B) : St w' b1 b2 n D1 D2 := by
  obtain ⟨⟨es, clock, k1, r1⟩, ⟨es', clock', k2, r2⟩, h3⟩ := h
  exact ⟨⟨es, clock, (hb.block b1 h1).trans k1, r1⟩, ⟨es', clock', (hb.block b2 h2).trans k2, r2⟩, h3⟩
theorem St.lt {w : World} {b1 b2 n : Nat} {D1 D2 : DataW Unit} (h : St w b1 b2 n D1 D2) : b1 < w.heap.size ∧ b2 < w.heap.size := ⟨h.last.lt, h.latest.lt⟩

/-- ZZnewGTIDState. -/
theorem new_any (w : World) : Calls Try.prog 12 #[] w fun e w' => ∃ b1 b2, e = .returned (.agg #[.map (some b1), .map (some b2)]) ∧ St w' b1 b2 0 (.map []) (.map []) ∧ w.heap.size ≤ b1 ∧ w.heap.size ≤ b2 ∧ Below w.heap.size w w' := by
  have hmm := @run_makeMap Try.prog
  go_enter Try.func12, Try.ntmps12
  go_wp2
  refine bodyPost_ret (v := .agg #[.map (some (w.heap.size + 1)), .map (some (w.heap.size + 1 + 1))]) (by simp [results, Try.results12, go_sem]) rfl ⟨_, _, rfl, ⟨?_, ?_, by omega⟩, by omega, by omega, ?_⟩
  · have := (World.ownsMap_made (w.alloc (Obj.cells #[Value.map (some (w.heap.size + 1)), Value.map (some (w.heap.size + 1 + 1))] 30)) Try.prog 42 (plainElem (H := Unit) Try.prog 32)).alloc (.map #[] 0)
    simpa using this
  · have := World.ownsMap_made ((w.alloc (Obj.cells #[Value.map (some (w.heap.size + 1)), Value.map (some (w.heap.size + 1 + 1))] 30)).alloc (.map #[] 0)) Try.prog 24 gElem
    simpa using this
  · exact (((Below.refl _ _).alloc (Nat.le_refl _) _).alloc (by simp) _).alloc (by simp; omega) _

/-- Nothing has turned but the two maps. -/
structure Kept (b1 b2 : Nat) (w w' : World) : Prop where
  os : w'.os = w.os
  tape : w'.tape = w.tape
  output : w'.output = w.output
  size : w.heap.size ≤ w'.heap.size
  block : ∀ i, i < w.heap.size → i ≠ b1 → i ≠ b2 → w'.heap[i]? = w.heap[i]?
theorem Kept.below {b1 b2 B : Nat} {w w' : World} (h : Kept b1 b2 w w') (h1 : B ≤ b1) (h2 : B ≤ b2) (hB : B ≤ w.heap.size) : Below B w w' :=
  ⟨h.os, h.tape, h.output, h.size, fun k hk => h.block k (by omega) (by omega) (by omega)⟩
theorem Kept.cell {b1 b2 : Nat} {w w' : World} (h : Kept b1 b2 w w') {p : Addr} (hp : p.block < w.heap.size) (h1 : p.block ≠ b1) (h2 : p.block ≠ b2) : w'.cell? p = w.cell? p := World.cell?_of_block (w := w) (h.block p.block hp h1 h2)
theorem Kept.frozen {b1 b2 : Nat} {w w' : World} (h : Kept b1 b2 w w') {p : Addr} (hp : p.block < w.heap.size) (h1 : p.block ≠ b1) (h2 : p.block ≠ b2) : w'.frozen? p = w.frozen? p := World.frozen?_of_block (w := w) (h.block p.block hp h1 h2)
theorem grown_cell {w w' : World} {b : Nat} (h : w.grownBy w' (some b)) {p : Addr} (hp : p.block < w.heap.size) (hne : p.block ≠ b) : w'.cell? p = w.cell? p := World.cell?_of_block (w := w) (h.block p.block hp (fun e => hne (Option.some.inj e)))

/-- ZZrecord. -/
theorem rec_any (w : World) (b1 b2 n : Nat) (D1 D2 : DataW Unit) (d s q : Int) (hd : U32 d) (hs : U32 s) (hq : U64 q) (hn : n < maxLen) (h : St w b1 b2 n D1 D2) :
    Calls Try.prog 11 #[.agg #[.map (some b1), .map (some b2)], .agg #[.int .u32 d, .int .u32 s, .int .u64 q]] w fun e w' => e = .returned (.tuple #[]) ∧ St w' b1 b2 (n + 1) (D1.put (kl d s) (.lit (.int .u64 q))) (D2.put (.int .u32 d) (gd d s q)) ∧ Kept b1 b2 w w' := by
  obtain ⟨h1, h2, hne⟩ := h
  have hb1 := h1.lt
  have hb2 := h2.lt
  have ge1 := World.grownBy_alloc w (Obj.cells #[Value.map (some b1), Value.map (some b2)] 30) none
  have ge2 := World.grownBy_alloc (w.alloc (Obj.cells #[Value.map (some b1), Value.map (some b2)] 30)) (Obj.cells #[Value.int IntKind.u32 d, Value.int IntKind.u32 s, Value.int IntKind.u64 q] 34) none
  have hge := ge1.andThen ge2 (fun j hj => by cases hj)
  have k1 := h1.kept hge (by simp)
  have k2 := h2.kept hge (by simp)
  clear ge1 ge2
  have HD : Hid (keyOf Try.prog 42 (.agg #[.int .u32 d, .int .u32 s]) = some (kl d s)) := key_mk hd hs
  go_enter Try.func11, Try.ntmps11
  go_wp2_with (first
    | (at_mapUpdate; refine wpList_mapUpdate_own _ rfl _ _ _ 27 rfl 42 32 law42 Try.underlying27 _ b1 n _ rfl k1 hn _ _ _ rfl rfl HD.out _ [] (plainElem_int Try.underlying32 hq) ?_
       intro w1 hown1 hgrow1
       have c1 : w1.cell? ⟨w.heap.size, 1, none⟩ = some (.map (some b2)) := by rw [grown_cell hgrow1 (by simp; omega) (by simp; omega)]; simp [go_sem]
       have c2 : w1.cell? ⟨w.heap.size + 1, 0, none⟩ = some (.int .u32 d) := by rw [grown_cell hgrow1 (by simp) (by simp; omega)]; simp [go_sem]
       have c3 : w1.cell? ⟨w.heap.size + 1, 1, none⟩ = some (.int .u32 s) := by rw [grown_cell hgrow1 (by simp) (by simp; omega)]; simp [go_sem]
       have c4 : w1.cell? ⟨w.heap.size + 1, 2, none⟩ = some (.int .u64 q) := by rw [grown_cell hgrow1 (by simp) (by simp; omega)]; simp [go_sem]
       have k3 := k2.kept hgrow1 (fun e => hne (Option.some.inj e).symm)
       clear k1 k2)
    | (at_mapUpdate; refine wpList_mapUpdate_own _ rfl _ _ _ 28 rfl 24 34 law24 Try.underlying28 gElem b2 n _ rfl k3 hn _ _ _ rfl rfl (keyOf_int_mk Try.underlying24 hd) _ [] (gElem_mk d s q) ?_
       intro w2 hown2 hgrow2)
    | go_in)
  go_end0
  have hown3 := hown1.kept hgrow2 (fun e => hne (Option.some.inj e))
  refine ⟨rfl, ⟨hown3, hown2, hne⟩, ?_⟩
  have z := hge.size
  have z1 := hgrow1.size
  exact ⟨hgrow2.os.trans (hgrow1.os.trans hge.os), hgrow2.tape.trans (hgrow1.tape.trans hge.tape), hgrow2.output.trans (hgrow1.output.trans hge.output), Nat.le_trans z (Nat.le_trans z1 hgrow2.size), fun i hi n1 n2 =>
    (hgrow2.block i (by omega) (fun e => n2 (Option.some.inj e))).trans ((hgrow1.block i (by omega) (fun e => n1 (Option.some.inj e))).trans (hge.block i hi (by simp)))⟩

end Go.Proofs.Qxb6632418a
