/- matchField, matchCommand: the walks. -/
import Derived.Test.Qxb6632497aRead
import Derived.Test.Qxb6632497aEntr
namespace Go.Proofs.Qxb6632497a
open Go.RowKit
attribute [local go_sem ↓] Go.wp_at_zero Go.wp_at_succ

theorem hid {p : Prop} (h : p) : Hid p := h

/-- sameBytes of a slice with itself, as bytes. -/
theorem same_true (w : World) (a b : Option Addr) (n c1 c2 : Nat) (xs : List UInt8) (hA : Src8 w a n xs) (hB : Src8 w b n xs) (hm : n ≤ 140737488355328) :
    Calls Try.prog 13 #[.slice a n c1, .slice b n c2] w fun e w' => e = .returned (.bool true) ∧ Below w.heap.size w w' := by
  refine (same_any w a b n n c1 c2 xs xs hA hB hm hm).mono ?_
  rintro e w' ⟨he, hb⟩
  rw [beq_self_eq_true] at he
  exact ⟨he, hb⟩

theorem same_empty (w : World) (a b : Option Addr) (n c1 c2 : Nat) (xs : List UInt8) (hx : xs = []) (hB : Src8 w b n xs) (hm : n ≤ 140737488355328) :
    Calls Try.prog 13 #[.slice a 0 c1, .slice b n c2] w fun e w' => e = .returned (.bool true) ∧ Below w.heap.size w w' := by
  subst hx
  refine (same_any w a b 0 n c1 c2 [] [] ⟨rfl, Or.inl rfl⟩ hB (by omega) hm).mono ?_
  rintro e w' ⟨he, hb⟩
  exact ⟨he, hb⟩

set_option maxHeartbeats 4000000 in
set_option maxRecDepth 100000 in
/-- matchField where the field stands. -/
theorem mf_any (g o n c p : Nat) (bs fs rest : List UInt8) (fa : Option Addr) (fn fc : Nat) (w : World) (hs : Src8 w (some ⟨g, o, none⟩) n bs) (hm : n ≤ 10000000000000) (hnc : n ≤ c) (h : bs.drop p = field fs ++ rest) (hf : Src8 w fa fn fs) (hfl : fn ≤ 1048576) :
    Calls Try.prog 20 #[.slice (some ⟨g, o, none⟩) n c, .int .i64 p, .slice fa fn fc] w fun e w' => e = .returned (.tuple #[.int .i64 ((p + (field fs).length : Nat) : Int), .bool true]) ∧ Below w.heap.size w w' := by
  have hfn := hf.1
  have hnb := hs.1
  have hat : UvAt bs p fn := ⟨fs ++ rest, by rw [h, hfn, field, List.append_assoc]⟩
  have hlu := Lib.uvarint_length64 (x := fn) (by omega)
  have hlp := Lib.uvarint_pos fn
  have hlen : p + (Lib.uvarint fn).length + fn ≤ n := by
    have h1 := congrArg List.length h
    have h2 := hat.le
    simp [field, ← hfn] at h1
    omega
  have hn0 : 0 < n := by omega
  obtain ⟨g', o', ha, hcell⟩ := src_cell hs hn0
  simp at ha
  obtain ⟨rfl, rfl⟩ := ha
  have hrd := rd_any g o n c p fn bs w hnb (by omega) hcell hat (by omega)
  have HF : Hid ((p + (field fs).length : Nat) = p + (Lib.uvarint fn).length + fn) := by
    show _ = _
    rw [field, List.length_append, ← hfn]; omega
  have hpart : Src8 w (some ⟨g, o + (p + (Lib.uvarint fn).length), none⟩) fn fs := by
    have hp := hs.part (lo := p + (Lib.uvarint fn).length) (hi := p + (Lib.uvarint fn).length + fn) (by omega) (by omega)
    rw [List.drop_take, show p + (Lib.uvarint fn).length + fn - (p + (Lib.uvarint fn).length) = fn by omega, ← List.drop_drop, h, field, hfn, List.append_assoc, List.drop_left, List.take_left] at hp
    rw [hfn]
    exact hp
  obtain ⟨q, hq⟩ : ∃ q, p + (Lib.uvarint fn).length = q := ⟨_, rfl⟩
  rw [hq] at hrd hlen HF hpart
  have HRD := hid hrd
  have HPT := hid hpart
  have hfn0 : fn = 0 → Src8 w (some ⟨g, o, none⟩) fn fs := fun h0 => ⟨hfn, Or.inl h0⟩
  have HF0 := hid hfn0
  have hqp : 0 < q := by omega
  clear hfn hnb hat hcell hrd hpart h hq hlu hlp hfn0
  by_cases hcq : c = q
  · subst hcq
    have hz : fn = 0 := by omega
    have HB := hid (same_true w (some ⟨g, o, none⟩) fa fn 0 fc fs (HF0.out hz) hf (by omega))
    subst hz
    go_enter Try.func20, Try.ntmps20
    go_wp2_with (first
      | (go_at_call 10; refine HRD.out.mono ?_; rintro e w' ⟨rfl, rfl⟩)
      | (go_at_call 13; refine HB.out.mono ?_; rintro e w1 ⟨rfl, hb1⟩))
    go_ret2
    exact ⟨by rw [HF.out]; rfl, hb1⟩
  · have HB := hid (same_true w (some ⟨g, o + q, none⟩) fa fn (c - q) fc fs HPT.out hf (by omega))
    go_enter Try.func20, Try.ntmps20
    go_wp2_with (first
      | (go_at_call 10; refine HRD.out.mono ?_; rintro e w' ⟨rfl, rfl⟩)
      | (go_at_call 13; refine HB.out.mono ?_; rintro e w1 ⟨rfl, hb1⟩))
    go_ret2
    exact ⟨by rw [HF.out]; rfl, hb1⟩

set_option maxHeartbeats 1000000 in
set_option maxRecDepth 100000 in
/-- matchCommand of what Encode writes. -/
theorem mc_any (c : Cm) (g o n cap : Nat) (w : World) (hs : Src8 w (some ⟨g, o, none⟩) n (enc c.pc)) (hm : n ≤ 10000000000000) (hnc : n ≤ cap) (hok : CmOk w w.heap.size c) :
    Calls Try.prog 9 #[.slice (some ⟨g, o, none⟩) n cap, .agg #[.int .u8 c.pc.op.toNat, .slice c.ka c.kn c.kc, .slice c.pa c.pn c.pcap, .slice c.va c.vn c.vc]] w fun e w' => e = .returned (.bool true) ∧ Below w.heap.size w w' := by
  have hnl := hs.1
  have hn0 : 0 < n := by have := enc_pos c.pc; omega
  obtain ⟨g', o', ha, hcell⟩ := src_cell hs hn0
  simp at ha
  obtain ⟨rfl, rfl⟩ := ha
  have hg : g < w.heap.size := World.block_lt_of_cell? w ⟨g, o + 0, none⟩ (hcell 0 (by omega))
  have e0 : w.cell? ⟨g, o, none⟩ = some (.int .u8 c.pc.op.toNat) := by simpa [enc] using hcell 0 (by omega)
  have hbx := box_new w c 30
  have hb0 : Below w.heap.size w (w.alloc (.cells #[.int .u8 c.pc.op.toNat, .slice c.ka c.kn c.kc, .slice c.pa c.pn c.pcap, .slice c.va c.vn c.vc] 30)) := (Below.refl _ _).alloc (Nat.le_refl _) _
  have i0 : ¬ (n : Int) < 1 := by omega
  have i1 : decide ((n : Int) < 1) = false := by simpa using i0
  have hbs : ∀ g', blk (some (⟨g, o, none⟩ : Addr)) = some g' → g' < w.heap.size := fun g' hg' => by simp [blk] at hg'; omega
  have eg : (w.alloc (.cells #[.int .u8 c.pc.op.toNat, .slice c.ka c.kn c.kc, .slice c.pa c.pn c.pcap, .slice c.va c.vn c.vc] 30)).cell? ⟨g, o, none⟩ = some (.int .u8 c.pc.op.toNat) := (hb0.cell (p := ⟨g, o, none⟩) hg).trans e0
  clear hcell hnl
  by_cases h4 : c.pc.op.toNat = 4
  · have h4' : ((c.pc.op.toNat : Int) == 4) = true := by simp [h4]
    have H4 := hid h4
    clear h4
    have HD1 : Hid ((enc c.pc).drop 1 = field c.pc.ks ++ (field c.pc.ps ++ c.pc.vs)) := by
      show _ = _
      simp [enc, H4.out]
    obtain ⟨P1, hP1⟩ : ∃ P1, 1 + (field c.pc.ks).length = P1 := ⟨_, rfl⟩
    have HD2 : Hid ((enc c.pc).drop P1 = field c.pc.ps ++ c.pc.vs) := by
      show _ = _
      rw [← hP1, ← List.drop_drop, HD1.out, List.drop_left]
    obtain ⟨P, hP⟩ : ∃ P, P1 + (field c.pc.ps).length = P := ⟨_, rfl⟩
    have hend : (enc c.pc).drop P = c.pc.vs := by rw [← hP, ← List.drop_drop, HD2.out, List.drop_left]
    have hPn : P + c.vn = n := by
      have h1 := congrArg List.length hend
      have h2 := hs.1
      have h3 := hok.v.1
      have h5 := congrArg List.length HD2.out
      have h6 := congrArg List.length HD1.out
      simp at h1 h5 h6
      omega
    go_enter Try.func9, Try.ntmps9
    go_wp2
    go_region_held3 (fun w' => w'.cell? ⟨g, o, none⟩ = some (.int .u8 c.pc.op.toNat) ∧ w'.cell? ⟨w.heap.size, 0, none⟩ = some (.int .u8 c.pc.op.toNat)) (go_keep) (fail)
    have HPP1 := hid hP1
    have HPP := hid hP
    have HEN := hid hend
    subst hPn
    clear hP hP1 hend
    have hb1 : Below w.heap.size w (w.alloc (.cells #[.int .u8 c.pc.op.toNat, .slice c.ka c.kn c.kc, .slice c.pa c.pn c.pcap, .slice c.va c.vn c.vc] 30)).drew := hb0.drew
    have hmf := mf_any g o (P + c.vn) cap 1 (enc c.pc) c.pc.ks (field c.pc.ps ++ c.pc.vs) c.ka c.kn c.kc _ (hs.below hb1 hbs) hm hnc HD1.out (hok.below hb1).k hok.kl
    rw [HPP1.out] at hmf
    have HMF := hid hmf
    clear hmf
    go_wp2_with fail
    refine HMF.out.mono ?_
    rintro e wa ⟨rfl, hba⟩
    have hza := hba.size
    simp at hza
    have hbba : Below w.heap.size w wa := hb1.trans (hba.mono (by simp))
    have hbxa : Box wa w.heap.size c := hbx.below (⟨hba.os, hba.tape, hba.output, hba.size, hba.block⟩ : Below (w.alloc (.cells #[.int .u8 c.pc.op.toNat, .slice c.ka c.kn c.kc, .slice c.pa c.pn c.pcap, .slice c.va c.vn c.vc] 30)).heap.size (w.alloc (.cells #[.int .u8 c.pc.op.toNat, .slice c.ka c.kn c.kc, .slice c.pa c.pn c.pcap, .slice c.va c.vn c.vc] 30)) wa) (by simp)
    have hsa := hs.below hbba hbs
    have hoka := hok.below hbba
    obtain ⟨f0, f1, f2, f3⟩ := hbxa
    have hmf2 := mf_any g o (P + c.vn) cap P1 (enc c.pc) c.pc.ps c.pc.vs c.pa c.pn c.pcap wa hsa hm hnc HD2.out hoka.p hok.pl
    rw [HPP.out] at hmf2
    have HMF2 := hid hmf2
    clear hmf2
    go_wp2_with fail
    refine HMF2.out.mono ?_
    rintro e w1 ⟨rfl, hb2⟩
    have hz2 := hb2.size
    have hbb : Below w.heap.size w w1 := hbba.trans (hb2.mono (by omega))
    have hbx1 : Box w1 w.heap.size c := (BoxAt.mk f0 f1 f2 f3 : Box wa w.heap.size c).below hb2 (by omega)
    clear f0 f1 f2 f3
    have hs1 := hs.below hbb hbs
    have hok1 := hok.below hbb
    have hprt : Src8 w1 (some ⟨g, o + P, none⟩) c.vn c.pc.vs := by
      have hp := hs1.part (lo := P) (hi := P + c.vn) (by omega) (Nat.le_refl _)
      rw [List.take_of_length_le (by have := hs.1; omega), HEN.out, show P + c.vn - P = c.vn by omega] at hp
      exact hp
    obtain ⟨d0, d1, d2, d3⟩ := hbx1
    have j1 : (0 : Int) ≤ (P : Int) := by omega
    have j2 : (P : Int) ≤ (P : Int) + (c.vn : Int) := by omega
    have hvl := hok.vl
    by_cases hcp : cap = P
    · subst hcp
      have hv0 : c.vn = 0 := by omega
      have hvs : c.pc.vs = [] := List.eq_nil_of_length_eq_zero (by have := hok.v.1; omega)
      have HSM := hid (fun W hW => same_empty W (some ⟨g, o, none⟩) c.va c.vn 0 c.vc c.pc.vs hvs (hok1.v.below' (B := w.heap.size) hW hok1.vb) (by omega))
      clear hvs
      clear hv0
      go_wp2
      go_region_held3 (fun w' => w'.cell? ⟨w.heap.size, 3, none⟩ = some (.slice c.va c.vn c.vc)) (first | (go_keep; done) | (exact (hb3.cell (p := ⟨w.heap.size, 3, none⟩) (by simp; omega)).trans d3)) ((go_at_call 13; refine (HSM.out _ (Below.refl _ _).drew).mono ?_; rintro e w2 ⟨rfl, hb3⟩))
      go_wp2
      go_ret
      exact ⟨rfl, hbb.drew.trans (hb3.mono (by simp; omega))⟩
    · have HSM := hid (fun W hW => same_true W (some ⟨g, o + P, none⟩) c.va c.vn (cap - P) c.vc c.pc.vs (hprt.below (B := w.heap.size) hW (fun g' hg' => by simp [blk] at hg'; omega)) (hok1.v.below' hW hok1.vb) (by omega))
      go_wp2
      go_region_held3 (fun w' => w'.cell? ⟨w.heap.size, 3, none⟩ = some (.slice c.va c.vn c.vc)) (first | (go_keep; done) | (exact (hb3.cell (p := ⟨w.heap.size, 3, none⟩) (by simp; omega)).trans d3)) ((go_at_call 13; refine (HSM.out _ (Below.refl _ _).drew).mono ?_; rintro e w2 ⟨rfl, hb3⟩))
      go_wp2
      go_ret
      exact ⟨rfl, hbb.drew.trans (hb3.mono (by simp; omega))⟩
  · have h4' : ((c.pc.op.toNat : Int) == 4) = false := by simp; omega
    have HD1 : Hid ((enc c.pc).drop 1 = field c.pc.ks ++ c.pc.vs) := by
      show _ = _
      simp [enc, h4]
    obtain ⟨P, hP⟩ : ∃ P, 1 + (field c.pc.ks).length = P := ⟨_, rfl⟩
    have hend : (enc c.pc).drop P = c.pc.vs := by rw [← hP, ← List.drop_drop, HD1.out, List.drop_left]
    have hPn : P + c.vn = n := by
      have h1 := congrArg List.length hend
      have h2 := hs.1
      have h3 := hok.v.1
      have h5 := congrArg List.length HD1.out
      simp at h1 h5
      omega
    go_enter Try.func9, Try.ntmps9
    go_wp2
    go_region_held3 (fun w' => w'.cell? ⟨g, o, none⟩ = some (.int .u8 c.pc.op.toNat) ∧ w'.cell? ⟨w.heap.size, 0, none⟩ = some (.int .u8 c.pc.op.toNat)) (go_keep) (fail)
    have HPP := hid hP
    have HEN := hid hend
    subst hPn
    clear hP hend
    have hb1 : Below w.heap.size w (w.alloc (.cells #[.int .u8 c.pc.op.toNat, .slice c.ka c.kn c.kc, .slice c.pa c.pn c.pcap, .slice c.va c.vn c.vc] 30)).drew := hb0.drew
    have hmf := mf_any g o (P + c.vn) cap 1 (enc c.pc) c.pc.ks c.pc.vs c.ka c.kn c.kc _ (hs.below hb1 hbs) hm hnc HD1.out (hok.below hb1).k hok.kl
    rw [HPP.out] at hmf
    have HMF := hid hmf
    clear hmf
    go_wp2_with fail
    refine HMF.out.mono ?_
    rintro e w1 ⟨rfl, hb2⟩
    have hz2 := hb2.size
    simp at hz2
    have hbb : Below w.heap.size w w1 := hb1.trans (hb2.mono (by simp))
    have hbx1 : Box w1 w.heap.size c := hbx.below (⟨hb2.os, hb2.tape, hb2.output, hb2.size, hb2.block⟩ : Below (w.alloc (.cells #[.int .u8 c.pc.op.toNat, .slice c.ka c.kn c.kc, .slice c.pa c.pn c.pcap, .slice c.va c.vn c.vc] 30)).heap.size (w.alloc (.cells #[.int .u8 c.pc.op.toNat, .slice c.ka c.kn c.kc, .slice c.pa c.pn c.pcap, .slice c.va c.vn c.vc] 30)) w1) (by simp)
    have hs1 := hs.below hbb hbs
    have hok1 := hok.below hbb
    have hprt : Src8 w1 (some ⟨g, o + P, none⟩) c.vn c.pc.vs := by
      have hp := hs1.part (lo := P) (hi := P + c.vn) (by omega) (Nat.le_refl _)
      rw [List.take_of_length_le (by have := hs.1; omega), HEN.out, show P + c.vn - P = c.vn by omega] at hp
      exact hp
    obtain ⟨d0, d1, d2, d3⟩ := hbx1
    have j1 : (0 : Int) ≤ (P : Int) := by omega
    have j2 : (P : Int) ≤ (P : Int) + (c.vn : Int) := by omega
    have hvl := hok.vl
    by_cases hcp : cap = P
    · subst hcp
      have hv0 : c.vn = 0 := by omega
      have hvs : c.pc.vs = [] := List.eq_nil_of_length_eq_zero (by have := hok.v.1; omega)
      have HSM := hid (fun W hW => same_empty W (some ⟨g, o, none⟩) c.va c.vn 0 c.vc c.pc.vs hvs (hok1.v.below' (B := w.heap.size) hW hok1.vb) (by omega))
      clear hvs
      clear hv0
      go_wp2
      go_region_held3 (fun w' => w'.cell? ⟨w.heap.size, 3, none⟩ = some (.slice c.va c.vn c.vc)) (first | (go_keep; done) | (exact (hb3.cell (p := ⟨w.heap.size, 3, none⟩) (by simp; omega)).trans d3)) ((go_at_call 13; refine (HSM.out _ (Below.refl _ _).drew).mono ?_; rintro e w2 ⟨rfl, hb3⟩))
      go_wp2
      go_ret
      exact ⟨rfl, hbb.drew.trans (hb3.mono (by simp; omega))⟩
    · have HSM := hid (fun W hW => same_true W (some ⟨g, o + P, none⟩) c.va c.vn (cap - P) c.vc c.pc.vs (hprt.below (B := w.heap.size) hW (fun g' hg' => by simp [blk] at hg'; omega)) (hok1.v.below' hW hok1.vb) (by omega))
      go_wp2
      go_region_held3 (fun w' => w'.cell? ⟨w.heap.size, 3, none⟩ = some (.slice c.va c.vn c.vc)) (first | (go_keep; done) | (exact (hb3.cell (p := ⟨w.heap.size, 3, none⟩) (by simp; omega)).trans d3)) ((go_at_call 13; refine (HSM.out _ (Below.refl _ _).drew).mono ?_; rintro e w2 ⟨rfl, hb3⟩))
      go_wp2
      go_ret
      exact ⟨rfl, hbb.drew.trans (hb3.mono (by simp; omega))⟩

end Go.Proofs.Qxb6632497a
