/- FnEncodeBatchReadsBackAsItsCommands: the walk. -/
import Derived.Test.Qxb6632497aMatch
import Derived.Test.Qxb6632497aSplit
namespace Go.Proofs.Qxb6632497a
open Go.RowKit
attribute [local go_sem ↓] Go.wp_at_zero Go.wp_at_succ

/-- Where entry j of a batch begins. -/
def pos (cs : List PC) (j : Nat) : Nat := (hdr cs.length).length + (entries (cs.take j)).length
theorem pos_drop (cs : List PC) (h : cs.length ≠ 1) (j : Nat) (hj : j < cs.length) : (batch cs).drop (pos cs j) = Lib.uvarint (enc cs[j]).length ++ (enc cs[j] ++ entries (cs.drop (j + 1))) := by
  have e : cs = cs.take j ++ cs[j] :: cs.drop (j + 1) := by rw [← List.drop_eq_getElem_cons hj, List.take_append_drop]
  have e1 : batch cs = (hdr cs.length ++ entries (cs.take j)) ++ (Lib.uvarint (enc cs[j]).length ++ (enc cs[j] ++ entries (cs.drop (j + 1)))) := by
    rw [batch_many cs h]
    have e2 : entries cs = entries (cs.take j) ++ entries (cs[j] :: cs.drop (j + 1)) := by
      rw [← entries_append, ← e]
    have e3 : entries (cs[j] :: cs.drop (j + 1)) = entry cs[j] ++ entries (cs.drop (j + 1)) := by unfold entries; rw [List.flatMap_cons]
    rw [e2, e3, entry]
    simp only [List.append_assoc]
  rw [e1, pos, ← List.length_append, List.drop_left]
theorem pos_succ (cs : List PC) (j : Nat) (hj : j < cs.length) : pos cs (j + 1) = pos cs j + (Lib.uvarint (enc cs[j]).length).length + (enc cs[j]).length := by
  unfold pos
  rw [List.take_succ_eq_append_getElem hj, entries_append]
  simp [entries, entry]
  omega
theorem pos_end (cs : List PC) (h : cs.length ≠ 1) : pos cs cs.length = (batch cs).length := by
  rw [batch_many cs h, pos, List.length_append, List.take_length]

set_option maxHeartbeats 4000000 in
set_option maxRecDepth 100000 in
/-- One command. -/
theorem back_one (c : Cm) (bi oi cap : Nat) (w : World) (h : In w (some ⟨bi, oi, none⟩) 1 [c]) :
    Calls Try.prog 3 #[.slice (some ⟨bi, oi, none⟩) 1 cap] w fun e w' => e = .returned (.bool true) ∧ Below w.heap.size w w' := by
  go_enter Try.func3, Try.ntmps3
  go_wp2_with (first
    | (go_at_call 5; refine (zb5_any [c] _ 1 cap w h).mono ?_; rintro e w' ⟨t, rfl, rfl, ht⟩; cases t <;> (first | (replace ht := ht rfl) | skip))
    | (go_at_call 6; refine (tb_any [c] _ 1 cap w h ht.1 ht.2).mono ?_; rintro e w1 ⟨t, rfl, hb1, hn⟩; cases t <;> (first | (replace hn := hn rfl) | skip))
    | (go_at_call 8; refine (kv_any [c] _ 1 cap w1 ((h.below hb1).cmds (by omega) ht.2) hn).mono ?_; rintro e w2 ⟨a2, rfl, hc2, hb2⟩)
    | (go_at_call 7; refine (batch_at [c] a2 1 1 w2 hc2).mono ?_; rintro e w3 ⟨g, kw, capw, rfl, how, hb3, hg1, hg2, hw0, hw1, hkc⟩
       have z1 := hb1.size
       have z2 := hb2.size
       have hball : Below w.heap.size w w3 := (hb1.trans (hb2.mono (by omega))).trans (hb3.mono (by omega))
       have hcm := ((h.below hball).cmds (by omega) ht.2)
       obtain ⟨⟨c0, c1, c2, c3⟩, hok⟩ : BoxAt w3 bi oi c ∧ CmOk w3 w3.heap.size c := by
         rcases hcm.2.2 with h0 | ⟨b', off', ha, hcc⟩
         · omega
         · simp at ha
           obtain ⟨rfl, rfl⟩ := ha
           have := hcc 0 (by simp)
           simpa using this)
    | (go_at_call 9; refine (mc_any c g 0 kw capw w3 how.src (by omega) hkc hok).mono ?_; rintro e w4 ⟨rfl, hb4⟩))
  · go_ret
    exact ⟨rfl, Below.refl _ _⟩
  · go_ret
    exact ⟨rfl, hball.trans (hb4.mono (by have := hball.size; omega))⟩
  · go_ret
    exact ⟨rfl, hb1⟩

set_option maxHeartbeats 1000000 in
set_option maxRecDepth 100000 in
/-- Two commands or more. -/
theorem back_many (cs : List Cm) (bi oi n cap : Nat) (w : World) (h : In w (some ⟨bi, oi, none⟩) n cs) (h2 : 2 ≤ n) :
    Calls Try.prog 3 #[.slice (some ⟨bi, oi, none⟩) n cap] w fun e w' => e = .returned (.bool true) ∧ Below w.heap.size w w' := by
  have h1' : ((n : Int) == 1) = false := by simp; omega
  have hml := h.2.1
  unfold maxLen at hml
  obtain ⟨ps, hps⟩ : ∃ ps, cs.map (·.pc) = ps := ⟨_, rfl⟩
  have hpl : ps.length = n := by rw [← hps, List.length_map, h.1]
  have hne : ps.length ≠ 1 := by omega
  have HPL := hid hpl
  have HPS := hid hps
  clear hpl hps
  go_enter Try.func3, Try.ntmps3
  go_wp2_with (first
    | (go_at_call 5; refine (zb5_any cs _ n cap w h).mono ?_; rintro e w' ⟨t, rfl, rfl, ht⟩; cases t <;> (first | (replace ht := ht rfl) | skip))
    | (go_at_call 6; refine (tb_any cs _ n cap w h ht.1 ht.2).mono ?_; rintro e w1 ⟨t, rfl, hb1, hn⟩; cases t <;> (first | (replace hn := hn rfl) | skip))
    | (go_at_call 8; refine (kv_any cs _ n cap w1 ((h.below hb1).cmds (by omega) ht.2) hn).mono ?_; rintro e w2 ⟨a2, rfl, hc2, hb2⟩)
    | (go_at_call 7; refine (batch_at cs a2 n n w2 hc2).mono ?_; rintro e w3 ⟨g, kw, capw, rfl, how, hb3, hg1, hg2, hw0, hw1, hkc⟩
       have z1 := hb1.size
       have z2 := hb2.size
       have hball : Below w.heap.size w w3 := (hb1.trans (hb2.mono (by omega))).trans (hb3.mono (by omega))
       have hsrc := how.src
       rw [HPS.out, batch_many _ hne, HPL.out] at hsrc
       obtain ⟨gg, oo, hga, hcl⟩ := src_cell hsrc hw0
       simp only [Option.some.injEq, Addr.mk.injEq] at hga
       obtain ⟨hga1, hga2, _⟩ := hga
       have e0 : w3.cell? ⟨g, 0, none⟩ = some (.int .u8 0) := by
         have := hcl 0 (by simp [hdr])
         rw [← hga1, ← hga2] at this
         simpa [hdr] using this
       have hkl := hsrc.1
       have HRD := hid (rd_any g 0 kw capw 1 n _ w3 hkl (by omega) (by rw [← hga1, ← hga2] at hcl; exact hcl) ⟨entries ps, by simp [hdr]⟩ (by omega))
       have HKL := hid hkl
       have HSRC := hid hsrc
       clear hcl hga1 hga2 hkl hsrc)
    | (go_at_call 10; refine HRD.out.mono ?_; rintro e w' ⟨rfl, rfl⟩))
  · go_ret
    exact ⟨rfl, Below.refl _ _⟩
  · have hln := Lib.uvarint_length64 (x := n) (by omega)
    have hsw : Src8 w3 (some ⟨g, 0, none⟩) kw (batch ps) := by rw [← HPS.out]; exact how.src
    have HSW := hid hsw
    have HEND : Hid (pos ps n = kw) := by
      show _ = _
      rw [← HPL.out, pos_end ps hne, ← hsw.1]
    have hp0 : pos ps 0 = 1 + (Lib.uvarint n).length := by
      unfold pos
      rw [HPL.out]
      simp [hdr, entries]
      omega
    have HP0 := hid hp0
    have h3 := h.below hball
    have hbi : bi < w3.heap.size := by
      rcases h3.2.2 with h0 | ⟨b', off', ha, hcm⟩
      · omega
      · simp at ha
        obtain ⟨rfl, rfl⟩ := ha
        exact World.block_lt_of_cell? w3 _ (hcm 0 (by have := h.1; omega)).1.c0
    have z3 := hball.size
    clear hsw hp0 HRD HKL HSRC e0 how
    go_loopw [5, 7] (fun vp vi wr => ∃ j : Nat, j ≤ n ∧ vi = .int .i64 j ∧ vp = .int .i64 (pos ps j : Nat) ∧ pos ps j ≤ kw ∧ Below w3.heap.size w3 wr) (fun _ vi _ => n - (intOf vi).toNat)
    case atStart =>
      refine ⟨0, Nat.zero_le _, rfl, ?_, ?_, Below.refl _ _⟩
      · rw [HP0.out]; first | rfl | (congr 1; omega)
      · have h1 := HEND.out
        rw [← h1]
        unfold pos
        simp [entries]
    case round =>
      clear HP0
      obtain ⟨j, hj, rfl, rfl, hpk, hbr⟩ := hrel
      by_cases hlt : j < n
      · have hjp : j < ps.length := by have := HPL.out; omega
        have hjc : j < cs.length := by have := h.1; omega
        have ec : ps[j] = cs[j].pc := by simp [← HPS.out]
        have hdr := pos_drop ps hne j hjp
        have hsc := pos_succ ps j hjp
        rw [ec] at hdr hsc
        obtain ⟨hbx, hok⟩ : BoxAt wr bi (oi + j * 4) cs[j] ∧ CmOk wr wr.heap.size cs[j] := by
          have hcm := (h3.below hbr).cmds (by omega) ht.2
          rcases hcm.2.2 with h0 | ⟨b', off', ha, hcc⟩
          · omega
          · simp at ha
            obtain ⟨rfl, rfl⟩ := ha
            exact hcc j hjc
        generalize cs[j] = c at hdr hsc hbx hok
        clear ec
        obtain ⟨c0, c1, c2, c3⟩ := hbx
        have hsr := HSW.out.below hbr (fun g' hg' => by simp [blk] at hg'; omega)
        have hLl := hok.enc_le
        have hL0 := enc_pos c.pc
        obtain ⟨L, hL⟩ : ∃ L, (enc c.pc).length = L := ⟨_, rfl⟩
        obtain ⟨p, hp⟩ : ∃ p, pos ps j = p := ⟨_, rfl⟩
        rw [hL] at hdr hsc hLl hL0
        rw [hp] at hdr hsc hpk ⊢
        have hat : UvAt (batch ps) p L := ⟨_, hdr⟩
        have hlu := Lib.uvarint_length64 (x := L) (by omega)
        obtain ⟨q, hq⟩ : ∃ q, p + (Lib.uvarint L).length = q := ⟨_, rfl⟩
        have hqe : q + L ≤ kw := by
          have h1 := congrArg List.length hdr
          have h2 := hsr.1
          have h4 := hat.le
          simp [hL] at h1
          omega
        have hprt : Src8 wr (some ⟨g, q, none⟩) L (enc c.pc) := by
          have hpp := hsr.part (lo := q) (hi := q + L) (by omega) (by omega)
          rw [List.drop_take, show q + L - q = L by omega, ← hq, ← List.drop_drop, hdr, List.drop_left, ← hL, List.take_left, hL, hq] at hpp
          rw [Nat.zero_add] at hpp
          exact hpp
        obtain ⟨gg, oo, hga, hcl⟩ := src_cell hsr hw0
        simp only [Option.some.injEq, Addr.mk.injEq] at hga
        obtain ⟨rfl, rfl, _⟩ := hga
        have hrd := rd_any g 0 kw capw p L (batch ps) wr hsr.1 (by omega) hcl hat (by omega)
        rw [hq] at hrd hsc
        have HRD := hid hrd
        have HSC := hid hsc
        have hmL : ((q : Int) + (L : Int)).toNat - q = L := by omega
        rw [← hmL] at hprt
        have HMC := hid (fun W hW => mc_any c g q (((q : Int) + (L : Int)).toNat - q) (capw - q) W (hprt.below (B := wr.heap.size) hW (fun g' hg' => by simp [blk] at hg'; have := hbr.size; omega)) (by omega) (by omega) ((hok.below hW).mono hW.size))
        have hne2 : ¬ capw = q := by omega
        clear hdr hat hcl hrd hsc hprt hq hp hL hsr hmL
        have i1 : (0 : Int) ≤ (j : Int) := by omega
        have i2 : (j : Int) < (n : Int) := by omega
        have i3 : (q : Int) + (L : Int) ≤ (kw : Int) := by omega
        have i4 : (q : Int) + (L : Int) ≤ (capw : Int) := by omega
        have i5 : (0 : Int) ≤ (q : Int) := by omega
        have i6 : (q : Int) ≤ (q : Int) + (L : Int) := by omega
        go_wp2_with (go_at_call 10; refine HRD.out.mono ?_; rintro e w' ⟨rfl, rfl⟩)
        go_region_held3 (fun w' => w'.cell? ⟨bi, oi + j * 4, none⟩ = some (.int .u8 c.pc.op.toNat) ∧ w'.cell? ⟨bi, oi + j * 4 + 1, none⟩ = some (.slice c.ka c.kn c.kc) ∧ w'.cell? ⟨bi, oi + j * 4 + 2, none⟩ = some (.slice c.pa c.pn c.pcap) ∧ w'.cell? ⟨bi, oi + j * 4 + 3, none⟩ = some (.slice c.va c.vn c.vc))
          (first | (go_keep; done) | (exact ⟨(hb9.cell (by simp; have := hbr.size; omega)).trans c0, (hb9.cell (by simp; have := hbr.size; omega)).trans c1, (hb9.cell (by simp; have := hbr.size; omega)).trans c2, (hb9.cell (by simp; have := hbr.size; omega)).trans c3⟩))
          ((go_at_call 9; refine (HMC.out _ (Below.refl _ _).drew).mono ?_; rintro e w9 ⟨rfl, hb9⟩))
        go_wp2
        go_roundw
        case rel => exact ⟨j + 1, by omega, by go_num, by rw [HSC.out]; first | rfl | (congr 1; done) | (congr 1; omega), by rw [HSC.out]; omega, hbr.drew.trans (hb9.mono hbr.size)⟩
        case measure => simp [intOf]; omega
      · have ej : j = n := by omega
        subst ej
        have HE2 := HEND.out
        rw [HE2]
        go_wp2
        go_ret
        exact ⟨rfl, hball.trans (hbr.mono (by omega))⟩
  · go_ret
    exact ⟨rfl, hb1⟩

set_option maxHeartbeats 4000000 in
set_option maxRecDepth 100000 in
/-- No command. -/
theorem back_zero (a : Option Addr) (cap : Nat) (w : World) (h : In w a 0 []) :
    Calls Try.prog 3 #[.slice a 0 cap] w fun e w' => e = .returned (.bool true) ∧ Below w.heap.size w w' := by
  have hu : Lib.uvarint 0 = [0] := Lib.uvarint_small (by omega)
  have HU := hid hu
  clear hu
  go_enter Try.func3, Try.ntmps3
  go_wp2_with (first
    | (go_at_call 5; refine (zb5_any [] a 0 cap w h).mono ?_; rintro e w' ⟨t, rfl, rfl, ht⟩; cases t <;> (first | (replace ht := ht rfl) | skip))
    | (go_at_call 6; refine (tb_any [] a 0 cap w h ht.1 ht.2).mono ?_; rintro e w1 ⟨t, rfl, hb1, hn⟩; cases t <;> (first | (replace hn := hn rfl) | skip))
    | (go_at_call 8; refine (kv_any [] a 0 cap w1 ((h.below hb1).cmds (by omega) ht.2) hn).mono ?_; rintro e w2 ⟨a2, rfl, hc2, hb2⟩)
    | (go_at_call 7; refine (batch_at [] a2 0 0 w2 hc2).mono ?_; rintro e w3 ⟨g, kw, capw, rfl, how, hb3, hg1, hg2, hw0, hw1, hkc⟩
       have z1 := hb1.size
       have z2 := hb2.size
       have hball : Below w.heap.size w w3 := (hb1.trans (hb2.mono (by omega))).trans (hb3.mono (by omega))
       have hsrc := how.src
       have hbt : batch (([] : List Cm).map (·.pc)) = [0] ++ Lib.uvarint 0 := by simp [batch, hdr, entries]
       rw [hbt] at hsrc
       obtain ⟨gg, oo, hga, hcl⟩ := src_cell hsrc hw0
       simp only [Option.some.injEq, Addr.mk.injEq] at hga
       obtain ⟨hga1, hga2, _⟩ := hga
       have e0 : w3.cell? ⟨g, 0, none⟩ = some (.int .u8 0) := by
         have := hcl 0 (by simp)
         rw [← hga1, ← hga2] at this
         simpa using this
       have hkl := hsrc.1
       have HRD := hid (rd_any g 0 kw capw 1 0 _ w3 hkl (by omega) (by rw [← hga1, ← hga2] at hcl; exact hcl) ⟨[], by simp⟩ (by omega))
       have hk2 : kw = 2 := by rw [hkl, HU.out]; rfl
       subst hk2
       clear hcl hga1 hga2 hkl hsrc hbt)
    | (go_at_call 10; refine HRD.out.mono ?_; rintro e w' ⟨rfl, rfl⟩; rw [HU.out]))
  · go_ret
    exact ⟨rfl, Below.refl _ _⟩
  · refine wp_loop_rounds 1 ?_
    rw [rounds_succ]
    go_wp2
    go_ret
    exact ⟨rfl, hball⟩
  · go_ret
    exact ⟨rfl, hb1⟩

/-- FnEncodeBatchReadsBackAsItsCommands. -/
theorem back_any (cs : List Cm) (a : Option Addr) (n cap : Nat) (w : World) (h : In w a n cs) :
    Calls Try.prog 3 #[.slice a n cap] w fun e w' => e = .returned (.bool true) ∧ Below w.heap.size w w' := by
  by_cases h0 : n = 0
  · have hcs : cs = [] := List.eq_nil_of_length_eq_zero (by have := h.1; omega)
    subst hcs
    subst h0
    exact back_zero a cap w h
  · obtain ⟨b, off, rfl⟩ : ∃ b off, a = some ⟨b, off, none⟩ := by
      rcases h.2.2 with h1 | ⟨b, off, ha, _⟩
      · exact absurd h1 h0
      · exact ⟨b, off, ha⟩
    by_cases h1 : n = 1
    · obtain ⟨c, rfl⟩ := List.length_eq_one_iff.1 (h.1.symm.trans h1)
      subst h1
      exact back_one c b off cap w h
    · exact back_many cs b off n cap w h (by omega)

end Go.Proofs.Qxb6632497a
