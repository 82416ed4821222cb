/- Commands; fieldSize, (Command).size, appendField, (Command).appendTo, (Command).Encode. -/
import Derived.Test.Qxb6632497aUs
namespace Go.Proofs.Qxb6632497a
open Go.RowKit
attribute [local go_sem ↓] Go.wp_at_zero Go.wp_at_succ

/-- A field: its length as a uvarint, and its bytes. -/
def field (f : List UInt8) : List UInt8 := Lib.uvarint f.length ++ f
/-- A command, as bytes. -/
structure PC where
  op : UInt8
  ks : List UInt8
  ps : List UInt8
  vs : List UInt8
def enc (c : PC) : List UInt8 := [c.op] ++ field c.ks ++ (if c.op.toNat = 4 then field c.ps else []) ++ c.vs

/-- A command, as it lies in memory. -/
structure Cm where
  pc : PC
  ka : Option Addr
  kn : Nat
  kc : Nat
  pa : Option Addr
  pn : Nat
  pcap : Nat
  va : Option Addr
  vn : Nat
  vc : Nat

/-- The fields can be read; they lie below block B; they are no longer than 2^20. -/
structure CmOk (w : World) (B : Nat) (c : Cm) : Prop where
  k : Src8 w c.ka c.kn c.pc.ks
  p : Src8 w c.pa c.pn c.pc.ps
  v : Src8 w c.va c.vn c.pc.vs
  kb : 0 < c.kn → ∀ g, blk c.ka = some g → g < B
  pb : 0 < c.pn → ∀ g, blk c.pa = some g → g < B
  vb : 0 < c.vn → ∀ g, blk c.va = some g → g < B
  kl : c.kn ≤ 1048576
  pl : c.pn ≤ 1048576
  vl : c.vn ≤ 1048576
theorem CmOk.below {w w' : World} {B : Nat} {c : Cm} (h : CmOk w B c) (hb : Below B w w') : CmOk w' B c :=
  ⟨h.k.below' hb h.kb, h.p.below' hb h.pb, h.v.below' hb h.vb, h.kb, h.pb, h.vb, h.kl, h.pl, h.vl⟩
theorem CmOk.mono {w : World} {B B' : Nat} {c : Cm} (h : CmOk w B c) (hb : B ≤ B') : CmOk w B' c :=
  ⟨h.k, h.p, h.v, fun h0 g hg => Nat.lt_of_lt_of_le (h.kb h0 g hg) hb, fun h0 g hg => Nat.lt_of_lt_of_le (h.pb h0 g hg) hb, fun h0 g hg => Nat.lt_of_lt_of_le (h.vb h0 g hg) hb, h.kl, h.pl, h.vl⟩

theorem ret_i {k : IntKind} {a b : Int} (h : a = b) : Ending.returned (.int k a) = .returned (.int k b) := by rw [h]

set_option maxHeartbeats 1000000 in
/-- fieldSize. -/
theorem fs_any (a : Option Addr) (n c : Nat) (hn : n ≤ 1048576) (w : World) :
    Calls Try.prog 21 #[.slice a n c] w fun e w' => e = .returned (.int .i64 (((Lib.uvarint n).length + n : Nat) : Int)) ∧ Below w.heap.size w w' := by
  have hlen := Lib.uvarint_length64 (x := n) (by omega)
  go_enter Try.func21, Try.ntmps21
  go_wp2_with (go_at_call 16; refine (us_any n (by omega) _).mono ?_; rintro e w' ⟨rfl, hb⟩)
  go_ret
  exact ⟨ret_i (by omega), hb⟩

theorem enc_len (c : PC) : (enc c).length = 1 + ((Lib.uvarint c.ks.length).length + c.ks.length) + c.vs.length + (if c.op.toNat = 4 then (Lib.uvarint c.ps.length).length + c.ps.length else 0) := by
  unfold enc field
  split <;> simp <;> omega

set_option maxHeartbeats 2000000 in
/-- (Command).size. -/
theorem size_any (c : Cm) (w : World) (B : Nat) (h : CmOk w B c) :
    Calls Try.prog 17 #[.agg #[.int .u8 c.pc.op.toNat, .slice c.ka c.kn c.kc, .slice c.pa c.pn c.pcap, .slice c.va c.vn c.vc]] w fun e w' => e = .returned (.int .i64 ((enc c.pc).length : Nat)) ∧ Below w.heap.size w w' := by
  have hk := h.kl
  have hp := h.pl
  have hv := h.vl
  have ek : c.kn = c.pc.ks.length := h.k.1
  have ep : c.pn = c.pc.ps.length := h.p.1
  have ev : c.vn = c.pc.vs.length := h.v.1
  have HE : Hid ((enc c.pc).length = 1 + ((Lib.uvarint c.kn).length + c.kn) + c.vn + (if c.pc.op.toNat = 4 then (Lib.uvarint c.pn).length + c.pn else 0)) := by
    show _ = _
    rw [enc_len, ek, ep, ev]
  clear ek ep ev
  have hlk := Lib.uvarint_length64 (x := c.kn) (by omega)
  have hlp := Lib.uvarint_length64 (x := c.pn) (by omega)
  have hkeep : ∀ w', Below (w.alloc (Obj.cells #[Value.int .u8 c.pc.op.toNat, .slice c.ka c.kn c.kc, .slice c.pa c.pn c.pcap, .slice c.va c.vn c.vc] 37)).heap.size (w.alloc (Obj.cells #[Value.int .u8 c.pc.op.toNat, .slice c.ka c.kn c.kc, .slice c.pa c.pn c.pcap, .slice c.va c.vn c.vc] 37)) w' →
      ∀ i, w'.cell? ⟨w.heap.size, i, none⟩ = (w.alloc (Obj.cells #[Value.int .u8 c.pc.op.toNat, .slice c.ka c.kn c.kc, .slice c.pa c.pn c.pcap, .slice c.va c.vn c.vc] 37)).cell? ⟨w.heap.size, i, none⟩ := fun w' hb i => hb.cell (p := ⟨w.heap.size, i, none⟩) (by simp)
  have HK : Hid _ := hkeep
  clear hkeep
  have q1 : IntKind.i64.wrap (1 + (((Lib.uvarint c.kn).length : Int) + (c.kn : Int))) = 1 + (((Lib.uvarint c.kn).length : Int) + (c.kn : Int)) := wrap_small _ (by omega) (by omega)
  have q2 : IntKind.i64.wrap (1 + (((Lib.uvarint c.kn).length : Int) + (c.kn : Int)) + (c.vn : Int)) = 1 + (((Lib.uvarint c.kn).length : Int) + (c.kn : Int)) + (c.vn : Int) := wrap_small _ (by omega) (by omega)
  by_cases h4 : c.pc.op.toNat = 4
  · have h4' : ((c.pc.op.toNat : Int) == 4) = true := by simp [h4]
    have H4 : Hid (c.pc.op.toNat = 4) := h4
    clear h4
    go_enter Try.func17, Try.ntmps17
    go_wp2
    go_region_held3 (fun w' => w'.cell? ⟨w.heap.size, 1, none⟩ = some (.slice c.ka c.kn c.kc) ∧ w'.cell? ⟨w.heap.size, 3, none⟩ = some (.slice c.va c.vn c.vc)) (first | (rw [HK.out _ hb, HK.out _ hb]; simp [go_sem]; done) | (go_keep; done))
      ((go_at_call 21; refine (fs_any c.ka c.kn c.kc hk _).mono ?_; rintro e w1 ⟨rfl, hb0⟩; have hb : Below (w.alloc (Obj.cells #[Value.int .u8 c.pc.op.toNat, .slice c.ka c.kn c.kc, .slice c.pa c.pn c.pcap, .slice c.va c.vn c.vc] 37)).heap.size (w.alloc (Obj.cells #[Value.int .u8 c.pc.op.toNat, .slice c.ka c.kn c.kc, .slice c.pa c.pn c.pcap, .slice c.va c.vn c.vc] 37)) w1 := ⟨hb0.os, hb0.tape, hb0.output, hb0.size, hb0.block⟩; clear hb0))
    have e0 : w1.cell? ⟨w.heap.size, 0, none⟩ = some (.int .u8 c.pc.op.toNat) := by rw [HK.out _ hb]; simp [go_sem]
    have e2 : w1.cell? ⟨w.heap.size, 2, none⟩ = some (.slice c.pa c.pn c.pcap) := by rw [HK.out _ hb]; simp [go_sem]
    have hz := hb.size
    simp at hz
    go_wp2_with (go_at_call 21; refine (fs_any c.pa c.pn c.pcap hp _).mono ?_; rintro e w2 ⟨rfl, hb2⟩)
    go_ret
    refine ⟨ret_i ?_, ((((Below.refl _ _).alloc (Nat.le_refl _) _).trans (hb.mono (by simp))).trans (hb2.mono (by omega)))⟩
    rw [HE.out, if_pos H4.out]
    omega
  · have h4' : ((c.pc.op.toNat : Int) == 4) = false := by
      simp
      omega
    go_enter Try.func17, Try.ntmps17
    go_wp2
    go_region_held3 (fun w' => w'.cell? ⟨w.heap.size, 1, none⟩ = some (.slice c.ka c.kn c.kc) ∧ w'.cell? ⟨w.heap.size, 3, none⟩ = some (.slice c.va c.vn c.vc)) (first | (rw [HK.out _ hb, HK.out _ hb]; simp [go_sem]; done) | (go_keep; done))
      ((go_at_call 21; refine (fs_any c.ka c.kn c.kc hk _).mono ?_; rintro e w1 ⟨rfl, hb0⟩; have hb : Below (w.alloc (Obj.cells #[Value.int .u8 c.pc.op.toNat, .slice c.ka c.kn c.kc, .slice c.pa c.pn c.pcap, .slice c.va c.vn c.vc] 37)).heap.size (w.alloc (Obj.cells #[Value.int .u8 c.pc.op.toNat, .slice c.ka c.kn c.kc, .slice c.pa c.pn c.pcap, .slice c.va c.vn c.vc] 37)) w1 := ⟨hb0.os, hb0.tape, hb0.output, hb0.size, hb0.block⟩; clear hb0))
    have e0 : w1.cell? ⟨w.heap.size, 0, none⟩ = some (.int .u8 c.pc.op.toNat) := by rw [HK.out _ hb]; simp [go_sem]
    go_wp2
    go_ret
    refine ⟨ret_i ?_, (((Below.refl _ _).alloc (Nat.le_refl _) _).trans (hb.mono (by simp)))⟩
    rw [HE.out, if_neg h4]
    omega

end Go.Proofs.Qxb6632497a
