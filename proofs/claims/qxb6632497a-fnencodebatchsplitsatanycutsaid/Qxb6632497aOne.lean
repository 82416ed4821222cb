/- FnEncodeBatchSplitsAtAnyCut at one command, and where the cut is out of range: the walk. -/
import Derived.Test.Qxb6632497aSplit
namespace Go.Proofs.Qxb6632497a
open Go.RowKit
attribute [local go_sem ↓] Go.wp_at_zero Go.wp_at_succ

theorem pair_at (w : World) (c : Cm) (H : Nat) (hH : w.heap.size = H) (hok : CmOk w w.heap.size c) :
    Cmds (w.alloc (.cells #[.int .u8 c.pc.op.toNat, .slice c.ka c.kn c.kc, .slice c.pa c.pn c.pcap, .slice c.va c.vn c.vc, .int .u8 c.pc.op.toNat, .slice c.ka c.kn c.kc, .slice c.pa c.pn c.pcap, .slice c.va c.vn c.vc] 37)) (some ⟨H, 0, none⟩) 2 [c, c] := by
  subst hH
  refine ⟨rfl, by omega, Or.inr ⟨w.heap.size, 0, rfl, fun i hi => ?_⟩⟩
  have hok' : CmOk (w.alloc (.cells #[.int .u8 c.pc.op.toNat, .slice c.ka c.kn c.kc, .slice c.pa c.pn c.pcap, .slice c.va c.vn c.vc, .int .u8 c.pc.op.toNat, .slice c.ka c.kn c.kc, .slice c.pa c.pn c.pcap, .slice c.va c.vn c.vc] 37)) (w.alloc (.cells #[.int .u8 c.pc.op.toNat, .slice c.ka c.kn c.kc, .slice c.pa c.pn c.pcap, .slice c.va c.vn c.vc, .int .u8 c.pc.op.toNat, .slice c.ka c.kn c.kc, .slice c.pa c.pn c.pcap, .slice c.va c.vn c.vc] 37)).heap.size c := (hok.below ((Below.refl _ _).alloc (Nat.le_refl _) _)).mono (by simp)
  match i, hi with
  | 0, _ => exact ⟨⟨by simp [go_sem], by simp [go_sem], by simp [go_sem], by simp [go_sem]⟩, hok'⟩
  | 1, _ => exact ⟨⟨by simp [go_sem], by simp [go_sem], by simp [go_sem], by simp [go_sem]⟩, hok'⟩

set_option maxHeartbeats 4000000 in
set_option maxRecDepth 100000 in
/-- One command. -/
theorem split_one (c : Cm) (bi oi cap : Nat) (kk : Int) (w : World) (h : In w (some ⟨bi, oi, none⟩) 1 [c]) (hk0 : 0 ≤ kk) (hk1 : kk ≤ 1) :
    Calls Try.prog 4 #[.slice (some ⟨bi, oi, none⟩) 1 cap, .int .i64 kk] w fun e w' => e = .returned (.bool true) ∧ Below w.heap.size w w' := by
  go_enter Try.func4, Try.ntmps4
  go_wp2_with (first
    | (go_at_call 11; refine (zb11_any [c] _ 1 cap kk w h).mono ?_; rintro e w' ⟨t, rfl, rfl, ht⟩; cases t <;> (first | (replace ht := ht rfl) | skip))
    | (go_at_call 6; refine (tb_any [c] _ 1 cap w h ht.1 ht.2).mono ?_; rintro e w1 ⟨t, rfl, hb1, hn⟩; cases t <;> (first | (replace hn := hn rfl) | skip))
    | (go_at_call 8; refine (kv_any [c] _ 1 cap w1 ((h.below hb1).cmds (by omega) ht.2) hn).mono ?_; rintro e w2 ⟨a2, rfl, hc2, hb2⟩
       obtain ⟨b, off, rfl⟩ : ∃ b off, a2 = some ⟨b, off, none⟩ := by
         rcases hc2.2.2 with h0 | ⟨b, off, ha, _⟩
         · omega
         · exact ⟨b, off, ha⟩)
    | (go_at_call 7; refine (batch_at [c] (some ⟨b, off, none⟩) 1 1 w2 hc2).mono ?_; rintro e w3 ⟨g, kw, capw, rfl, how, hb3, hg1, hg2, hw0, hw1, hkc⟩))
  rotate_left
  · have z1 := hb1.size
    have z2 := hb2.size
    have z3 := hb3.size
    have hc3 := hc2.below hb3
    obtain ⟨hbx, hok⟩ : BoxAt w3 b off c ∧ CmOk w3 w3.heap.size c := by
      rcases hc3.2.2 with h0 | ⟨b', off', ha, hcm⟩
      · omega
      · simp at ha
        obtain ⟨rfl, rfl⟩ := ha
        have := hcm 0 (by simp)
        simpa using this
    obtain ⟨c0, c1, c2, c3⟩ := hbx
    go_region_held3 (fun w' => w'.cell? ⟨b, off, none⟩ = some (.int .u8 c.pc.op.toNat) ∧ w'.cell? ⟨b, off + 1, none⟩ = some (.slice c.ka c.kn c.kc) ∧ w'.cell? ⟨b, off + 2, none⟩ = some (.slice c.pa c.pn c.pcap) ∧ w'.cell? ⟨b, off + 3, none⟩ = some (.slice c.va c.vn c.vc)) (go_keep) (fail)
    have hcp := (pair_at w3 c _ rfl hok).below ((Below.refl _ _).drew)
    have hbp : Below w3.heap.size w3 (w3.alloc (.cells #[.int .u8 c.pc.op.toNat, .slice c.ka c.kn c.kc, .slice c.pa c.pn c.pcap, .slice c.va c.vn c.vc, .int .u8 c.pc.op.toNat, .slice c.ka c.kn c.kc, .slice c.pa c.pn c.pcap, .slice c.va c.vn c.vc] 37)).drew := ((Below.refl _ _).alloc (Nat.le_refl _) _).drew
    go_wp2_with fail
    refine (batch_at [c, c] _ 2 2 _ hcp).mono ?_
    rintro e w4 ⟨g2, k2, cap2, rfl, ho2, hb4, hg3, hg4, ht0, ht1, htc⟩
    have hb34 : Below w3.heap.size w3 w4 := hbp.trans (hb4.mono (by simp))
    have z4 := hb34.size
    have hsw4 : Src8 w4 (some ⟨g, 0, none⟩) kw (enc c.pc) := how.src.below hb34 (fun g' hg' => by simp [blk] at hg'; omega)
    have hst4 : Src8 w4 (some ⟨g2, 0, none⟩) k2 (batch [c.pc, c.pc]) := ho2.src
    have hown0 := own_one w4 w4.heap.size _ 0 (Nat.le_refl _) rfl
    have hbB : Below w4.heap.size w4 (w4.alloc (.cells #[.int .u8 ((0 : UInt8).toNat)] 5)) := (Below.refl _ _).alloc (Nat.le_refl _) _
    have blw : ∀ g', blk (some (⟨g, 0, none⟩ : Addr)) = some g' → g' < w4.heap.size := fun g' hg' => by simp [blk] at hg'; omega
    have blt : ∀ g', blk (some (⟨g2, 0, none⟩ : Addr)) = some g' → g' < w4.heap.size := fun g' hg' => by simp [blk] at hg'; omega
    have u2 := Lib.uvarint_length64 (x := 2) (by omega)
    have uw := Lib.uvarint_length64 (x := kw) (by omega)
    go_wp2_with fail
    refine (put_own w4.heap.size 1 1 2 (by omega) _ [0] _ hown0 (by simp) (by omega)).mono ?_
    rintro e w5 ⟨a5, k5, cap5, rfl, ho5, hg5⟩
    have hb5 : Below w4.heap.size w4 w5 := hbB.trans (hg5.below hown0 (by simp))
    have hk5 : k5 ≤ 20 := by have h1 := ho5.len; simp at h1; omega
    go_wp2_with fail
    refine (put_own w4.heap.size k5 cap5 kw (by omega) a5 _ _ ho5 hb5.size (by omega)).mono ?_
    rintro e w6 ⟨a6, k6, cap6, rfl, ho6, hg6⟩
    have hb6 : Below w4.heap.size w4 w6 := hb5.trans (hg6.below ho5 hb5.size)
    have hk6 : k6 ≤ 40 := by have h1 := ho6.len; have h2 := ho5.len; rw [List.length_append] at h1; omega
    have hsw6 := hsw4.below hb6 blw
    go_wp2_with (at_builtin; refine wpList_app _ rfl _ _ rfl w4.heap.size a6 k6 cap6 _ rfl ho6 _ kw capw _ rfl hsw6 ?e1 hb6.size ?_; (case e1 => omega); intro a7 k7 cap7 w7 ho7 hg7)
    have hb7 := hb6.trans (hg7.below ho6 hb6.size)
    have hk7 : k7 ≤ 5000000000040 := by have h1 := ho7.len; have h2 := ho6.len; have h3 := hsw4.1; rw [List.length_append] at h1; omega
    refine (put_own w4.heap.size k7 cap7 kw (by omega) a7 _ _ ho7 hb7.size (by omega)).mono ?_
    rintro e w8 ⟨a8, k8, cap8, rfl, ho8, hg8⟩
    have hb8 : Below w4.heap.size w4 w8 := hb7.trans (hg8.below ho7 hb7.size)
    have hk8 : k8 ≤ 5000000000060 := by have h1 := ho8.len; have h2 := ho7.len; rw [List.length_append] at h1; omega
    have hsw8 := hsw4.below hb8 blw
    go_wp2_with (at_builtin; refine wpList_app _ rfl _ _ rfl w4.heap.size a8 k8 cap8 _ rfl ho8 _ kw capw _ rfl hsw8 ?e1 hb8.size ?_; (case e1 => omega); intro a9 k9 cap9 w9 ho9 hg9)
    have hb9 := hb8.trans (hg9.below ho8 hb8.size)
    have hk9 : k9 ≤ 10000000000060 := by have h1 := ho9.len; have h2 := ho8.len; have h3 := hsw4.1; rw [List.length_append] at h1; omega
    have hst9 := hst4.below hb9 blt
    have hsw9 := hsw4.below hb9 blw
    have hball : Below w.heap.size w w9 := ((hb1.trans (hb2.mono (by omega))).trans (hb3.mono (by omega))).trans ((hb34.mono (by omega)).trans (hb9.mono (by omega)))
    have e1 : w9.cell? ⟨g, 0, none⟩ = some (.int .u8 c.pc.op.toNat) := by
      obtain ⟨b', off', ha, hcc⟩ := src_cell hsw9 hw0
      simp at ha
      obtain ⟨rfl, rfl⟩ := ha
      have := hcc 0 (enc_pos c.pc)
      simpa [enc] using this
    have z9 := hb9.size
    obtain ⟨hbb, hbi⟩ : BoxAt w bi oi c ∧ bi < w.heap.size := by
      rcases h.2.2 with h0 | ⟨b', off', ha, hcm⟩
      · omega
      · simp at ha
        obtain ⟨rfl, rfl⟩ := ha
        obtain ⟨hbb, _⟩ := hcm 0 (by simp)
        have hlt : bi < w.heap.size := by
          have := hbb.c0
          apply Nat.lt_of_not_le
          intro hle
          simp [World.cell?, Array.getElem?_eq_none hle] at this
        exact ⟨by simpa using hbb, hlt⟩
    have e2 : w9.cell? ⟨bi, oi, none⟩ = some (.int .u8 c.pc.op.toNat) := (hbb.below hball hbi).c0
    have HE : Hid (batch [c.pc, c.pc] = [0] ++ Lib.uvarint 2 ++ Lib.uvarint kw ++ enc c.pc ++ Lib.uvarint kw ++ enc c.pc) := by
      show _ = _
      have hkw := hsw4.1
      rw [batch_many _ (by simp)]
      simp [hdr, entries, entry, ← hkw, List.append_assoc]
    have i1 : (0 : Int) < (kw : Int) := by omega
    have i2 : decide ((0 : Int) < (kw : Int)) = true := by simpa using i1
    have hsame : ∀ W : World, Below w9.heap.size w9 W → Calls Try.prog 13 #[.slice (some ⟨g2, 0, none⟩) k2 cap2, .slice a9 k9 cap9] W fun e w' => e = .returned (.bool true) ∧ Below W.heap.size W w' := by
      intro W hW
      refine (same_any W _ _ k2 k9 cap2 cap9 _ _ (hst9.below hW (fun g' hg' => by have := blt g' hg'; have := hb9.size; omega)) ((ho9.below hW).src) (by omega) (by omega)).mono ?_
      rintro e w' ⟨he, hbe⟩
      rw [HE.out, beq_self_eq_true] at he
      exact ⟨he, hbe⟩
    have HSM : Hid _ := hsame
    clear hsame
    go_region_held3 (fun w' => w'.cell? ⟨g, 0, none⟩ = some (.int .u8 c.pc.op.toNat) ∧ w'.cell? ⟨bi, oi, none⟩ = some (.int .u8 c.pc.op.toNat))
      (first | (go_keep; done) | (exact ⟨(hbe.cell (by simp; omega)).trans e1, (hbe.cell (by simp; omega)).trans e2⟩))
      ((go_at_call 13; refine (HSM.out _ (Below.refl _ _).drew).mono ?_; rintro e wz ⟨rfl, hbe⟩))
    go_wp2
    go_ret
    exact ⟨rfl, hball.drew.trans (hbe.mono hball.size)⟩
  · go_ret
    exact ⟨rfl, hb1⟩
  · go_ret
    exact ⟨rfl, Below.refl _ _⟩

set_option maxHeartbeats 4000000 in
/-- The cut is out of range. -/
theorem split_out (cs : List Cm) (a : Option Addr) (n cap : Nat) (kk : Int) (w : World) (h : In w a n cs) (hk : kk < 0 ∨ (n : Int) < kk) :
    Calls Try.prog 4 #[.slice a n cap, .int .i64 kk] w fun e w' => e = .returned (.bool true) ∧ Below w.heap.size w w' := by
  have hml := h.2.1
  unfold maxLen at hml
  rcases hk with hk | hk
  · go_enter Try.func4, Try.ntmps4
    go_wp2_with (first
      | (go_at_call 11; refine (zb11_any cs a n cap kk w h).mono ?_; rintro e w' ⟨t, rfl, rfl, ht⟩; cases t <;> (first | (replace ht := ht rfl) | skip))
      | (go_at_call 6; refine (tb_any cs a n cap w h ht.1 ht.2).mono ?_; rintro e w1 ⟨t, rfl, hb1, hn⟩; cases t <;> (first | (replace hn := hn rfl) | skip)))
    all_goals (go_ret; first | exact ⟨rfl, hb1⟩ | exact ⟨rfl, Below.refl _ _⟩)
  · have hk0 : ¬ kk < 0 := by omega
    go_enter Try.func4, Try.ntmps4
    go_wp2_with (first
      | (go_at_call 11; refine (zb11_any cs a n cap kk w h).mono ?_; rintro e w' ⟨t, rfl, rfl, ht⟩; cases t <;> (first | (replace ht := ht rfl) | skip))
      | (go_at_call 6; refine (tb_any cs a n cap w h ht.1 ht.2).mono ?_; rintro e w1 ⟨t, rfl, hb1, hn⟩; cases t <;> (first | (replace hn := hn rfl) | skip)))
    all_goals (go_ret; first | exact ⟨rfl, hb1⟩ | exact ⟨rfl, Below.refl _ _⟩)

/-- FnEncodeBatchSplitsAtAnyCut. -/
theorem split_any (cs : List Cm) (a : Option Addr) (n cap : Nat) (kk : Int) (w : World) (h : In w a n cs) :
    Calls Try.prog 4 #[.slice a n cap, .int .i64 kk] w fun e w' => e = .returned (.bool true) ∧ Below w.heap.size w w' := by
  by_cases hk : kk < 0 ∨ (n : Int) < kk
  · exact split_out cs a n cap kk w h hk
  · by_cases h1 : n = 1
    · obtain ⟨c, rfl⟩ := List.length_eq_one_iff.1 (h.1.symm.trans h1)
      subst h1
      obtain ⟨b, off, rfl⟩ : ∃ b off, a = some ⟨b, off, none⟩ := by
        rcases h.2.2 with h0 | ⟨b, off, ha, _⟩
        · omega
        · exact ⟨b, off, ha⟩
      exact split_one c b off cap kk w h (by omega) (by omega)
    · obtain ⟨k, rfl⟩ : ∃ k : Nat, kk = (k : Int) := ⟨kk.toNat, by omega⟩
      by_cases hkn : k = n
      · subst hkn
        exact split_end cs a k cap w h h1
      · exact split_mid cs a n cap k w h h1 (by omega)

end Go.Proofs.Qxb6632497a
