/- zzIsConcat: the walk. -/
import Derived.Test.Qxb6632608aBase
namespace Go.Proofs.Qxb6632608a
open Go.RowKit
attribute [local go_sem ↓] Go.wp_at_zero Go.wp_at_succ

theorem joined_split (ss : List Sg) (i : Nat) (hi : i < ss.length) : joined ss = joined (ss.take i) ++ (ss[i].ts ++ joined (ss.drop (i + 1))) := by
  have e : joined (ss[i] :: ss.drop (i + 1)) = ss[i].ts ++ joined (ss.drop (i + 1)) := by unfold joined; rw [List.flatMap_cons]
  have e2 : joined (ss.take i) ++ joined (ss.drop i) = joined ss := by unfold joined; rw [← List.flatMap_append, List.take_append_drop]
  rw [← e, ← List.drop_eq_getElem_cons hi, e2]
theorem joined_get (ss : List Sg) (i : Nat) (hi : i < ss.length) (j : Nat) (hj : j < ss[i].ts.length) : ∃ h : (joined (ss.take i)).length + j < (joined ss).length, (joined ss)[(joined (ss.take i)).length + j] = ss[i].ts[j] := by
  have e := joined_split ss i hi
  have h : (joined (ss.take i)).length + j < (joined ss).length := by rw [e]; simp; omega
  refine ⟨h, ?_⟩
  have h2 : (joined ss)[(joined (ss.take i)).length + j]? = some ss[i].ts[j] := by
    rw [e, List.getElem?_append_right (by omega), Nat.add_sub_cancel_left, List.getElem?_append_left hj, List.getElem?_eq_getElem hj]
  rw [List.getElem?_eq_getElem h] at h2
  exact Option.some.inj h2

set_option maxHeartbeats 4000000 in
set_option maxRecDepth 100000 in
theorem ct_some (ss : List Sg) (b off n cap : Nat) (ga : Option Addr) (gn gc : Nat) (w : World) (hn : n = ss.length) (h0 : 0 < n) (hm : n ≤ 65536) (h : InAt w b off ss) (hg : Seg w ga gn (joined ss)) (hgm : gn ≤ 32768) :
    Calls Try.prog 9 #[.slice ga gn gc, .slice (some ⟨b, off, none⟩) n cap] w fun e w' => e = .returned (.bool true) ∧ Below w.heap.size w w' := by
  have hbl : b < w.heap.size := World.block_lt_of_cell? w ⟨b, off + 0, none⟩ (h 0 (by omega)).1
  have HN : Hid (n = ss.length) := hn
  clear hn
  have HG := hid hg.1
  go_enter Try.func9, Try.ntmps9
  go_wp2
  go_loopw [5, 6] (fun vk vi wr => ∃ (i q : Nat), i ≤ n ∧ vi = .int .i64 i ∧ vk = .int .i64 q ∧ Hid ((joined (ss.take i)).length = q) ∧ Below w.heap.size w wr) (fun _ vi _ => n - (intOf vi).toNat)
  case atStart => exact ⟨0, 0, Nat.zero_le _, rfl, rfl, hid (by simp [joined]), Below.refl _ _⟩
  case round =>
    obtain ⟨i, q, hi, rfl, rfl, HQ, hbr⟩ := hrel
    by_cases hlt : i < n
    · have hic : i < ss.length := by have := HN.out; omega
      obtain ⟨c0, hin⟩ := h i hic
      have HTS := hid (joined_take_succ ss i hic)
      have HGET := hid (fun j hj => joined_get ss i hic j hj)
      generalize ss[i] = s at c0 hin HTS HGET
      have hsl := hin.seg.1
      have hqs : q + s.n ≤ gn := by
        have e1 := congrArg List.length HTS.out
        have e2 : (joined (ss.take (i + 1))).length ≤ (joined ss).length := by
          have e3 : joined (ss.take (i + 1)) ++ joined (ss.drop (i + 1)) = joined ss := by unfold joined; rw [← List.flatMap_append, List.take_append_drop]
          rw [← e3, List.length_append]
          omega
        have e4 := HQ.out
        have e5 := HG.out
        rw [List.length_append] at e1
        omega
      have HSL := hid hsl
      have c0r : wr.cell? ⟨b, off + i, none⟩ = some (.slice s.a s.n s.c) := (hbr.cell (p := ⟨b, off + i, none⟩) hbl).trans c0
      have i1 : (0 : Int) ≤ (i : Int) := by omega
      have i2 : (i : Int) < (n : Int) := by omega
      have hsn : s.n ≤ 32768 := by omega
      clear hsl c0r
      go_wp2
      go_loopw [5, 7] (fun vk vj ws => ∃ (j q2 : Nat), j ≤ s.n ∧ vj = .int .i64 j ∧ vk = .int .i64 q2 ∧ Hid (q + j = q2) ∧ Below w.heap.size w ws) (fun _ vj _ => s.n - (intOf vj).toNat)
      case atStart => exact ⟨0, q, Nat.zero_le _, rfl, rfl, hid (by omega), hbr⟩
      case round =>
        clear hbr
        obtain ⟨j, q2, hj, rfl, rfl, HQ2, hbs⟩ := hrel
        rename_i wr0
        have c0s : wr.cell? ⟨b, off + i, none⟩ = some (.slice s.a s.n s.c) := (hbs.cell (p := ⟨b, off + i, none⟩) hbl).trans c0
        have hbz := hbs.size
        by_cases hjl : j < s.n
        · obtain ⟨sb, so, hsa1, htm⟩ := hin.seg.2.resolve_left (by omega)
          have hjt : j < s.ts.length := by have := HSL.out; omega
          obtain ⟨hql, hqe⟩ := HGET.out j hjt
          obtain ⟨gb, go, hga, hgt⟩ := hg.2.resolve_left (by omega)
          have tg := hgt _ hql
          rw [hqe, HQ.out, HQ2.out] at tg
          have tsj := htm j hjt
          have lg := tg.lt
          have ls := tsj.lt
          obtain ⟨x0, x1, x2⟩ := tg.below hbs lg
          obtain ⟨y0, y1, y2⟩ := tsj.below hbs ls
          rw [hsa1] at c0s
          subst hga
          generalize s.ts[j] = tm at x0 x1 x2 y0 y1 y2
          have hq2 : q2 < gn := by have := HQ2.out; omega
          have j1 : (0 : Int) ≤ (j : Int) := by omega
          have j2 : (j : Int) < (s.n : Int) := by omega
          have j3 : (0 : Int) ≤ (q2 : Int) := by omega
          have j4 : (q2 : Int) < (gn : Int) := by omega
          have _n1 : ¬ b = wr.heap.size := by omega
          have _n2 : ¬ sb = wr.heap.size := by omega
          have _n3 : ¬ gb = wr.heap.size := by omega
          clear hsa1 hql hqe hgt tg tsj htm HGET HTS
          have hbA : Below wr.heap.size wr (wr.alloc (.cells #[.string tm.key, .int .i64 tm.idx, .bool tm.isx] 33)) := (Below.refl _ _).alloc (Nat.le_refl _) _
          have a0 : (wr.alloc (.cells #[.string tm.key, .int .i64 tm.idx, .bool tm.isx] 33)).cell? ⟨b, off + i, none⟩ = some (.slice (some ⟨sb, so, none⟩) s.n s.c) := (hbA.cell (p := ⟨b, off + i, none⟩) (by simp; omega)).trans c0s
          have a1 : (wr.alloc (.cells #[.string tm.key, .int .i64 tm.idx, .bool tm.isx] 33)).cell? ⟨sb, so + j * 3, none⟩ = some (.string tm.key) := (hbA.cell (p := ⟨sb, so + j * 3, none⟩) (by simp; omega)).trans y0
          have a2 : (wr.alloc (.cells #[.string tm.key, .int .i64 tm.idx, .bool tm.isx] 33)).cell? ⟨sb, so + j * 3 + 1, none⟩ = some (.int .i64 tm.idx) := (hbA.cell (p := ⟨sb, so + j * 3 + 1, none⟩) (by simp; omega)).trans y1
          have a3 : (wr.alloc (.cells #[.string tm.key, .int .i64 tm.idx, .bool tm.isx] 33)).cell? ⟨sb, so + j * 3 + 2, none⟩ = some (.bool tm.isx) := (hbA.cell (p := ⟨sb, so + j * 3 + 2, none⟩) (by simp; omega)).trans y2
          have HBB := hid ((hbs.alloc hbz (.cells #[.string tm.key, .int .i64 tm.idx, .bool tm.isx] 33)).alloc (by simp; omega) (.cells #[.string tm.key, .int .i64 tm.idx, .bool tm.isx] 36))
          clear hbA
          go_wp2
          go_roundw
          case rel => exact ⟨j + 1, q2 + 1, by omega, by go_num, by go_num, hid (by have := HQ2.out; omega), HBB.out⟩
          case measure => simp [intOf]; omega
        · go_wp2
          go_roundw
          case rel =>
            refine ⟨i + 1, q2, by omega, by go_num, rfl, hid ?_, hbs⟩
            rw [HTS.out, List.length_append, HQ.out, ← HSL.out, ← HQ2.out]
            omega
          case measure => simp [intOf]; omega
    · have ei : i = n := by omega
      subst ei
      have hq : q = gn := by
        have e1 := HQ.out
        rw [List.take_of_length_le (by have := HN.out; omega), ← HG.out] at e1
        omega
      subst hq
      go_wp2
      go_ret
      exact ⟨by simp, hbr⟩

set_option maxHeartbeats 1000000 in
theorem ct_zero (ga a : Option Addr) (gc cap : Nat) (w : World) :
    Calls Try.prog 9 #[.slice ga 0 gc, .slice a 0 cap] w fun e w' => e = .returned (.bool true) ∧ Below w.heap.size w w' := by
  go_enter Try.func9, Try.ntmps9
  go_wp2
  refine wp_loop_rounds 1 ?_
  rw [rounds_succ]
  go_wp2
  go_ret
  exact ⟨rfl, Below.refl _ _⟩

/-- zzIsConcat of the terms in order. -/
theorem ct_any (ss : List Sg) (a : Option Addr) (n cap : Nat) (ga : Option Addr) (gn gc : Nat) (w : World) (h : In w a n ss) (hm : n ≤ 65536) (hg : Seg w ga gn (joined ss)) (hgm : gn ≤ 32768) :
    Calls Try.prog 9 #[.slice ga gn gc, .slice a n cap] w fun e w' => e = .returned (.bool true) ∧ Below w.heap.size w w' := by
  obtain ⟨h1, h2, h3⟩ := h
  by_cases h0 : n = 0
  · have hcs : ss = [] := List.eq_nil_of_length_eq_zero (by omega)
    subst hcs
    subst h0
    have : gn = 0 := hg.1
    subst this
    exact ct_zero ga a gc cap w
  · rcases h3 with h3 | ⟨b, off, rfl, h3⟩
    · exact absurd h3 h0
    · exact ct_some ss b off n cap ga gn gc w h1 (by omega) hm h3 hg hgm

end Go.Proofs.Qxb6632608a
