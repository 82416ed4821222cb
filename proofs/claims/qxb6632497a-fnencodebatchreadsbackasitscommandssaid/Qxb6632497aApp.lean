/- appendField, (Command).appendTo, (Command).Encode. -/
import Derived.Test.Qxb6632497aEnc
namespace Go.Proofs.Qxb6632497a
open Go.RowKit
attribute [local go_sem ↓] Go.wp_at_zero Go.wp_at_succ

theorem Grew.cell {w w' : World} {a a' : Option Addr} (h : Grew w w' a a') {p : Addr} (hlt : p.block < w.heap.size) (hne : blk a ≠ some p.block) : w'.cell? p = w.cell? p :=
  World.cell?_of_block (w := w) (h.grown.block p.block hlt (fun e => hne e.symm))

set_option maxHeartbeats 1000000 in
/-- appendField. -/
theorem af_any (B n cap : Nat) (a : Option Addr) (bs : List UInt8) (fa : Option Addr) (fn fc : Nat) (fs : List UInt8) (w : World) (hown : Own w B a n cap bs) (hB : B ≤ w.heap.size) (hf : Src8 w fa fn fs) (hfb : 0 < fn → ∀ g, blk fa = some g → g < B) (hfl : fn ≤ 1048576) (hlim : n ≤ 100000000000000) :
    Calls Try.prog 22 #[.slice a n cap, .slice fa fn fc] w fun e w' => ∃ a' k cap', e = .returned (.slice a' k cap') ∧ Own w' B a' k cap' (bs ++ field fs) ∧ Grew w w' a a' := by
  have hfn := hf.1
  have HF : Hid (fn = fs.length) := hfn
  clear hfn
  have hln := Lib.uvarint_length64 (x := fn) (by omega)
  go_enter Try.func22, Try.ntmps22
  go_wp2_with (first
    | (go_at_call 18; refine (auv_own B n cap fn (by omega) a bs _ hown hB (by omega)).mono ?_
       rintro e w1 ⟨a1, k1, cap1, rfl, hown1, hg1⟩
       have hk1 : k1 ≤ 100000000000010 := by have h1 := hown1.len; have h2 := hown.len; rw [List.length_append] at h1; omega
       have hf1 : Src8 w1 fa fn fs := hf.below' (hg1.below hown hB) hfb
       have hB1 : B ≤ w1.heap.size := Nat.le_trans hB hg1.grown.size)
    | (at_builtin; refine wpList_app _ rfl _ _ rfl B a1 k1 cap1 _ rfl hown1 fa fn fc fs rfl hf1 (by omega) hB1 ?_; intro a2 k2 cap2 w2 hown2 hg2))
  go_ret
  refine ⟨a2, k2, cap2, rfl, ?_, hg1.trans hg2⟩
  unfold field
  rw [← HF.out, ← List.append_assoc]
  exact hown2

/-- A command in memory, at block N from place o on. -/
structure BoxAt (w : World) (N o : Nat) (c : Cm) : Prop where
  c0 : w.cell? ⟨N, o, none⟩ = some (.int .u8 c.pc.op.toNat)
  c1 : w.cell? ⟨N, o + 1, none⟩ = some (.slice c.ka c.kn c.kc)
  c2 : w.cell? ⟨N, o + 2, none⟩ = some (.slice c.pa c.pn c.pcap)
  c3 : w.cell? ⟨N, o + 3, none⟩ = some (.slice c.va c.vn c.vc)
theorem BoxAt.of {w w' : World} {N o : Nat} {c : Cm} (h : BoxAt w N o c) (hb : w'.heap[N]? = w.heap[N]?) : BoxAt w' N o c :=
  ⟨(World.cell?_of_block (w := w) (a := ⟨N, o, none⟩) hb).trans h.c0, (World.cell?_of_block (w := w) (a := ⟨N, o + 1, none⟩) hb).trans h.c1, (World.cell?_of_block (w := w) (a := ⟨N, o + 2, none⟩) hb).trans h.c2, (World.cell?_of_block (w := w) (a := ⟨N, o + 3, none⟩) hb).trans h.c3⟩
theorem BoxAt.grew {w w' : World} {N o : Nat} {c : Cm} {a a' : Option Addr} (h : BoxAt w N o c) (hg : Grew w w' a a') (hN : N < w.heap.size) (hne : blk a ≠ some N) : BoxAt w' N o c :=
  h.of (hg.grown.block N hN (fun e => hne e.symm))
theorem BoxAt.below {w w' : World} {N o B : Nat} {c : Cm} (h : BoxAt w N o c) (hb : Below B w w') (hN : N < B) : BoxAt w' N o c := h.of (hb.block N hN)
theorem BoxAt.alloc {w : World} {N o : Nat} {c : Cm} (h : BoxAt w N o c) (hN : N < w.heap.size) (x : Obj) : BoxAt (w.alloc x) N o c :=
  h.below ((Below.refl w.heap.size w).alloc (Nat.le_refl _) x) hN
/-- .. in a variable of its own. -/
abbrev Box (w : World) (N : Nat) (c : Cm) : Prop := BoxAt w N 0 c
theorem box_new (w : World) (c : Cm) (t : TypeId) : Box (w.alloc (.cells #[.int .u8 c.pc.op.toNat, .slice c.ka c.kn c.kc, .slice c.pa c.pn c.pcap, .slice c.va c.vn c.vc] t)) w.heap.size c := by
  refine ⟨?_, ?_, ?_, ?_⟩ <;> simp [go_sem]
/-- The row that is written is not block N, which lies behind the old ones. -/
theorem Grew.ne {w w' : World} {a a' : Option Addr} {N : Nat} (hg : Grew w w' a a') (hN : N < w.heap.size) (hne : blk a ≠ some N) : blk a' ≠ some N := by
  rcases hg.loc with h | ⟨g, h1, h2⟩
  · rw [h]; exact hne
  · rw [h2]; intro e; have := Option.some.inj e; omega

set_option maxHeartbeats 2000000 in
/-- (Command).appendTo. -/
theorem at_any (c : Cm) (B n cap : Nat) (a : Option Addr) (bs : List UInt8) (w : World) (h : CmOk w B c) (hown : Own w B a n cap bs) (hB : B ≤ w.heap.size) (hlim : n ≤ 90000000000000) :
    Calls Try.prog 19 #[.agg #[.int .u8 c.pc.op.toNat, .slice c.ka c.kn c.kc, .slice c.pa c.pn c.pcap, .slice c.va c.vn c.vc], .slice a n cap] w fun e w' => ∃ a' k cap', e = .returned (.slice a' k cap') ∧ Own w' B a' k cap' (bs ++ enc c.pc) ∧ Grew w w' a a' := by
  have hnl := hown.len
  have hbw : blk a ≠ some w.heap.size := fun e => by have := (hown.blk_ge e).2; omega
  have hk := h.kl
  have hp := h.pl
  have hv := h.vl
  have hkl := h.k.1
  have hpl := h.p.1
  have hvl := h.v.1
  have hb0 := box_new w c 37
  have hbB : Below B w (w.alloc (.cells #[.int .u8 c.pc.op.toNat, .slice c.ka c.kn c.kc, .slice c.pa c.pn c.pcap, .slice c.va c.vn c.vc] 37)) := (Below.refl _ _).alloc hB _
  have hlk := Lib.uvarint_length64 (x := c.pc.ks.length) (by omega)
  have hlp := Lib.uvarint_length64 (x := c.pc.ps.length) (by omega)
  have HN : Hid (n = bs.length) := hnl
  have HK : Hid (c.kn = c.pc.ks.length) := hkl
  have HP : Hid (c.pn = c.pc.ps.length) := hpl
  have HV : Hid (c.vn = c.pc.vs.length) := hvl
  clear hnl hkl hpl hvl
  by_cases h4 : c.pc.op.toNat = 4
  · have h4' : ((c.pc.op.toNat : Int) == 4) = true := by simp [h4]
    have H4 : Hid (c.pc.op.toNat = 4) := h4
    clear h4
    go_enter Try.func19, Try.ntmps19
    go_wp2_with (first
      | (at_builtin; refine wpList_app _ rfl _ _ rfl B a n cap bs rfl ((hown.alloc _).alloc _) _ 1 1 [c.pc.op] rfl (src_at _ _ _ _ _ ?e0 rfl) ?e2 ?e3 ?_; (case e0 => simp); (case e2 => omega); (case e3 => simp; omega); intro a1 k1 cap1 w1 hown1 hg1
         have hs1 := hg1.grown.size
         simp at hs1
         have hbx1 := (hb0.alloc (by simp) _).grew hg1 (by simp; omega) hbw
         have hne1 := hg1.ne (N := w.heap.size) (by simp; omega) hbw
         have hok1 : CmOk w1 B c := (h.below (hbB.alloc (by simp; omega) _)).below (hg1.below ((hown.alloc _).alloc _) (by simp; omega))
         have hk1 : k1 ≤ 90000000000001 := by have h1 := hown1.len; have h2 := HN.out; simp at h1; omega
         have hB1 : B ≤ w1.heap.size := by omega
         obtain ⟨c0, c1, c2, c3⟩ := hbx1))
    refine (af_any B k1 cap1 a1 _ c.ka c.kn c.kc c.pc.ks _ hown1 hB1 hok1.k hok1.kb hk (by omega)).mono ?_
    rintro e w2 ⟨a2, k2, cap2, rfl, hown2, hg2⟩
    have hs2 := hg2.grown.size
    have hbx2 := (BoxAt.mk c0 c1 c2 c3 : Box w1 w.heap.size c).grew hg2 (by omega) hne1
    have hne2 := hg2.ne (N := w.heap.size) (by omega) hne1
    have hok2 : CmOk w2 B c := hok1.below (hg2.below hown1 hB1)
    have hk2 : k2 ≤ 90000001048600 := by have h1 := hown2.len; have h2 := HN.out; have h3 := HK.out; unfold field at h1; simp at h1; omega
    have hB2 : B ≤ w2.heap.size := by omega
    clear c0 c1 c2 c3
    obtain ⟨c0, c1, c2, c3⟩ := hbx2
    go_wp2_with fail
    refine (af_any B k2 cap2 a2 _ c.pa c.pn c.pcap c.pc.ps _ hown2 hB2 hok2.p hok2.pb hp (by omega)).mono ?_
    rintro e w4 ⟨a4, k4, cap4, rfl, hown4, hg4⟩
    have hs4 := hg4.grown.size
    have hbx4 := (BoxAt.mk c0 c1 c2 c3 : Box w2 w.heap.size c).grew hg4 (by omega) hne2
    have hok4 : CmOk w4 B c := hok2.below (hg4.below hown2 hB2)
    have hk4 : k4 ≤ 90000002097200 := by have h1 := hown4.len; have h2 := HN.out; have h3 := HK.out; have h5 := HP.out; unfold field at h1; simp at h1; omega
    have hB4 : B ≤ w4.heap.size := by omega
    clear c0 c1 c2 c3
    obtain ⟨c0, c1, c2, c3⟩ := hbx4
    go_wp2_with (at_builtin; refine wpList_app _ rfl _ _ rfl B a4 k4 cap4 _ rfl hown4 c.va c.vn c.vc c.pc.vs rfl hok4.v ?e2 hB4 ?_; (case e2 => omega); intro a3 k3 cap3 w3 hown3 hg3)
    go_ret
    refine ⟨a3, k3, cap3, rfl, ?_, ((((((Grew.refl w a).alloc _).alloc _).trans hg1).trans hg2).trans hg4).trans hg3⟩
    unfold enc
    rw [if_pos H4.out]
    simpa [List.append_assoc] using hown3
  · have h4' : ((c.pc.op.toNat : Int) == 4) = false := by
      simp
      omega
    go_enter Try.func19, Try.ntmps19
    go_wp2_with (first
      | (at_builtin; refine wpList_app _ rfl _ _ rfl B a n cap bs rfl ((hown.alloc _).alloc _) _ 1 1 [c.pc.op] rfl (src_at _ _ _ _ _ ?e0 rfl) ?e2 ?e3 ?_; (case e0 => simp); (case e2 => omega); (case e3 => simp; omega); intro a1 k1 cap1 w1 hown1 hg1
         have hs1 := hg1.grown.size
         simp at hs1
         have hbx1 := (hb0.alloc (by simp) _).grew hg1 (by simp; omega) hbw
         have hne1 := hg1.ne (N := w.heap.size) (by simp; omega) hbw
         have hok1 : CmOk w1 B c := (h.below (hbB.alloc (by simp; omega) _)).below (hg1.below ((hown.alloc _).alloc _) (by simp; omega))
         have hk1 : k1 ≤ 90000000000001 := by have h1 := hown1.len; have h2 := HN.out; simp at h1; omega
         have hB1 : B ≤ w1.heap.size := by omega
         obtain ⟨c0, c1, c2, c3⟩ := hbx1)
      | (go_at_call 22; refine (af_any B k1 cap1 a1 _ c.ka c.kn c.kc c.pc.ks _ hown1 hB1 hok1.k hok1.kb hk (by omega)).mono ?_; rintro e w2 ⟨a2, k2, cap2, rfl, hown2, hg2⟩
         have hs2 := hg2.grown.size
         have hbx2 := (BoxAt.mk c0 c1 c2 c3 : Box w1 w.heap.size c).grew hg2 (by omega) hne1
         have hok2 : CmOk w2 B c := hok1.below (hg2.below hown1 hB1)
         have hk2 : k2 ≤ 90000001048600 := by have h1 := hown2.len; have h2 := HN.out; have h3 := HK.out; unfold field at h1; simp at h1; omega
         have hB2 : B ≤ w2.heap.size := by omega
         clear c0 c1 c2 c3
         obtain ⟨c0, c1, c2, c3⟩ := hbx2)
      | (at_builtin; refine wpList_app _ rfl _ _ rfl B a2 k2 cap2 _ rfl hown2 c.va c.vn c.vc c.pc.vs rfl hok2.v ?e2 hB2 ?_; (case e2 => omega); intro a3 k3 cap3 w3 hown3 hg3))
    go_ret
    refine ⟨a3, k3, cap3, rfl, ?_, (((((Grew.refl w a).alloc _).alloc _).trans hg1).trans hg2).trans hg3⟩
    unfold enc
    rw [if_neg h4]
    simpa [List.append_assoc] using hown3

set_option maxHeartbeats 2000000 in
/-- (Command).Encode. -/
theorem encode_any (c : Cm) (B : Nat) (w : World) (h : CmOk w B c) (hB : B ≤ w.heap.size) :
    Calls Try.prog 15 #[.agg #[.int .u8 c.pc.op.toNat, .slice c.ka c.kn c.kc, .slice c.pa c.pn c.pcap, .slice c.va c.vn c.vc]] w fun e w' => ∃ a' k cap', e = .returned (.slice a' k cap') ∧ Own w' w.heap.size a' k cap' (enc c.pc) ∧ Below w.heap.size w w' := by
  obtain ⟨i0, hi, hz0, hz1, hz2⟩ := info_parts Try.info5
  have hL : (enc c.pc).length ≤ 4000000 := by
    have hk := h.kl; have hp := h.pl; have hv := h.vl
    have hkl := h.k.1; have hpl := h.p.1; have hvl := h.v.1
    have hlk := Lib.uvarint_length64 (x := c.pc.ks.length) (by omega)
    have hlp := Lib.uvarint_length64 (x := c.pc.ps.length) (by omega)
    rw [enc_len]
    split <;> omega
  obtain ⟨L, hLe⟩ : ∃ L, (enc c.pc).length = L := ⟨_, rfl⟩
  have HL : Hid ((enc c.pc).length = L) := hLe
  rw [hLe] at hL
  have hmk : ∀ W : World, (Instr.makeSlice 24 (.int .i64 0) (.int .i64 (L : Int))).run Try.prog W = .ok (.slice (some ⟨W.heap.size, 0, none⟩) 0 L) (W.alloc (.cells (madeCells (Value.int .u8 0).cells L) 5)) := by
    intro W
    have := run_make (P := Try.prog) W 24 5 i0 (.int .u8 0) Try.underlying24 hi hz0 .i64 .i64 0 L (Int.le_refl _) (by omega) (by rw [hz2]; omega) (by omega)
    simpa [hz1] using this
  have hsz := fun W hW => size_any c W w.heap.size hW
  rw [hLe] at hsz
  have HSZ : Hid _ := hsz
  clear hLe hsz
  have hb0 := box_new w c 37
  have hok0 : CmOk (w.alloc (.cells #[.int .u8 c.pc.op.toNat, .slice c.ka c.kn c.kc, .slice c.pa c.pn c.pcap, .slice c.va c.vn c.vc] 37)).drew w.heap.size c := (h.mono hB).below ((Below.refl _ _).alloc (Nat.le_refl _) _).drew
  go_enter Try.func15, Try.ntmps15
  go_wp2
  go_region_held3 (fun w' => w'.cell? ⟨w.heap.size, 0, none⟩ = some (.int .u8 c.pc.op.toNat) ∧ w'.cell? ⟨w.heap.size, 1, none⟩ = some (.slice c.ka c.kn c.kc) ∧ w'.cell? ⟨w.heap.size, 2, none⟩ = some (.slice c.pa c.pn c.pcap) ∧ w'.cell? ⟨w.heap.size, 3, none⟩ = some (.slice c.va c.vn c.vc))
      (first | (go_keep; done) | (obtain ⟨k0, k1, k2, k3⟩ := hbx1; exact ⟨k0, k1, k2, k3⟩) | (obtain ⟨k0, k1, k2, k3⟩ := hbx2; exact ⟨k0, k1, k2, k3⟩) | (obtain ⟨k0, k1, k2, k3⟩ := hbx3; exact ⟨k0, k1, k2, k3⟩))
      (first
        | (go_at_call 17; refine (HSZ.out _ hok0).mono ?_; rintro e w1 ⟨rfl, hb1⟩
           have hs1 := hb1.size
           have hbx1 := (⟨hb0.c0, hb0.c1, hb0.c2, hb0.c3⟩ : Box (w.alloc (.cells #[.int .u8 c.pc.op.toNat, .slice c.ka c.kn c.kc, .slice c.pa c.pn c.pcap, .slice c.va c.vn c.vc] 37)).drew w.heap.size c).below hb1 (by simp)
           have hbx2 := fun o => hbx1.alloc (by simp at hs1; omega) o)
        | (go_at_call 19
           have hown2 : Own (w1.alloc (.cells (madeCells #[Value.int .u8 0] L) 5)) w.heap.size (some ⟨w1.heap.size, 0, none⟩) 0 L [] := World.ownsRow_made w1 _ L (by simp at hs1; omega) (by unfold maxLen; omega) (by rw [size_madeCells]; omega)
           have hok2 : CmOk (w1.alloc (.cells (madeCells #[Value.int .u8 0] L) 5)) w.heap.size c := (hok0.below (hb1.mono (by simp))).below ((Below.refl _ _).alloc (by simp at hs1; omega) _)
           refine (at_any c w.heap.size 0 L (some ⟨w1.heap.size, 0, none⟩) [] _ hok2 hown2 (by simp at hs1; simp; omega) (by omega)).mono ?_; rintro e w3 ⟨a3, k3, cap3, rfl, hown3, hg3⟩
           have hbx3 := (hbx2 (.cells (madeCells #[Value.int .u8 0] L) 5)).grew hg3 (by simp at hs1; simp; omega) (by simp at hs1; simp [blk]; omega)))
  go_wp2
  go_ret
  refine ⟨a3, k3, cap3, rfl, hown3, ?_⟩
  have e1 : Below w.heap.size w w1 := (((Below.refl _ _).alloc (Nat.le_refl _) _).drew).trans (hb1.mono (by simp))
  exact (e1.alloc (by simp at hs1; omega) _).trans (hg3.below hown2 (by simp at hs1; simp; omega))

end Go.Proofs.Qxb6632497a
