/- The uvarints: binary.AppendUvarint, putUvarint, uvarintSize. -/
import Derived.Test.Qxb6632497aBase
namespace Go.Proofs.Qxb6632497a
open Go.RowKit

/-- One byte, laid in a new block; the block's number spelt as the walk has it. -/
theorem src_at (w : World) (t : TypeId) (v : Int) (b : UInt8) (H : Nat) (hH : w.heap.size = H) (h : v = b.toNat) : Src8 (w.alloc (.cells #[.int .u8 v] t)) (some ⟨H, 0, none⟩) 1 [b] := by
  subst hH
  refine ⟨rfl, Or.inr ⟨_, 0, rfl, fun j u hu => ?_⟩⟩
  match j, hu with
  | 0, hu =>
    simp [Lib.byteCells] at hu
    subst hu
    simp [go_sem, h]

/-- One byte, laid in a new block. -/
theorem src_one (w : World) (t : TypeId) (v : Int) (b : UInt8) (h : v = b.toNat) : Src8 (w.alloc (.cells #[.int .u8 v] t)) (some ⟨w.heap.size, 0, none⟩) 1 [b] := by
  refine ⟨rfl, Or.inr ⟨_, 0, rfl, fun j u hu => ?_⟩⟩
  match j, hu with
  | 0, hu =>
    simp [Lib.byteCells] at hu
    subst hu
    simp [go_sem, h]

set_option maxHeartbeats 2000000 in
set_option maxRecDepth 100000 in
/-- binary.AppendUvarint: x's varint behind the bytes of a slice that the call owns. -/
theorem auv_own (B n cap x : Nat) (hx : x < 18446744073709551616) (a : Option Addr) (bs : List UInt8) (w : World) (hown : Own w B a n cap bs) (hB : B ≤ w.heap.size) (hlim : n + 10 ≤ 140737488355328) :
    Calls Try.prog 18 #[.slice a n cap, .int .u64 x] w fun e w' => ∃ a' k cap', e = .returned (.slice a' k cap') ∧ Own w' B a' k cap' (bs ++ Lib.uvarint x) ∧ Grew w w' a a' := by
  have hlen := Lib.uvarint_length64 hx
  go_enter Try.func18, Try.ntmps18
  go_wp2
  go_loopw [0, 1] (fun vb vx wr => ∃ (y : Nat) (pre : List UInt8) (a1 : Option Addr) (k1 cap1 : Nat), vb = .slice a1 k1 cap1 ∧ vx = .int .u64 y ∧ y ≤ x ∧ Lib.uvarint x = pre ++ Lib.uvarint y ∧ Own wr B a1 k1 cap1 (bs ++ pre) ∧ Grew w wr a a1)
    (fun _ vx _ => (intOf vx).toNat)
  case atStart => exact ⟨x, [], a, n, cap, rfl, rfl, Nat.le_refl _, rfl, by simpa using hown, Grew.refl w a⟩
  case round =>
    obtain ⟨y, pre, a1, k1, cap1, rfl, rfl, hy, hsplit, hown1, hgr⟩ := hrel
    have hpl : pre.length + (Lib.uvarint y).length ≤ 10 := by
      have h2 := congrArg List.length hsplit
      rw [List.length_append] at h2
      omega
    have hyp := Lib.uvarint_pos y
    have hk1 := hown1.len
    have hn := hown.len
    rw [List.length_append] at hk1
    have hk2 : k1 + 1 ≤ 140737488355328 := by omega
    have hsz := hgr.grown.size
    have HS : Hid (Lib.uvarint x = pre ++ Lib.uvarint y) := hsplit
    clear hsplit hk1 hn
    by_cases h128 : 128 ≤ y
    · have hor : bits .or .u8 ((y : Int) % 256) 128 = ((y % 128 + 128 : Nat) : Int) := by
        rw [Lib.u8_or128_any _ (by omega) (by omega)]
        omega
      have hb : ((y % 128 + 128).toUInt8).toNat = y % 128 + 128 := Lib.toUInt8_toNat (by omega)
      go_wp2_with (at_builtin; refine wpList_app _ rfl _ _ rfl B a1 k1 cap1 (bs ++ pre) rfl (hown1.alloc _) _ 1 1 [(y % 128 + 128).toUInt8] rfl (src_one _ _ _ _ ?e1) ?e2 ?e3 ?_; (case e1 => omega); (case e2 => omega); (case e3 => simp; omega); intro a2 k2 cap2 w2 hown2 hgr2; clear hb)
      go_roundw
      case rel =>
        refine ⟨y / 128, pre ++ [(y % 128 + 128).toUInt8], a2, k2, cap2, rfl, by go_num, by omega, by rw [HS.out, Lib.uvarint_big h128]; simp, by rw [← List.append_assoc]; exact hown2, (hgr.alloc _).trans hgr2⟩
      case measure => simp [intOf]; omega
    · have hsm : Lib.uvarint y = [y.toUInt8] := Lib.uvarint_small (by omega)
      have HM : Hid (Lib.uvarint y = [y.toUInt8]) := hsm
      clear hsm
      have hb : (y.toUInt8).toNat = y := Lib.toUInt8_toNat (by omega)
      go_wp2_with (at_builtin; refine wpList_app _ rfl _ _ rfl B a1 k1 cap1 (bs ++ pre) rfl (hown1.alloc _) _ 1 1 [y.toUInt8] rfl (src_one _ _ _ _ ?e1) ?e2 ?e3 ?_; (case e1 => omega); (case e2 => omega); (case e3 => simp; omega); intro a2 k2 cap2 w2 hown2 hgr2; clear hb)
      go_ret
      refine ⟨a2, k2, cap2, rfl, ?_, (hgr.alloc _).trans hgr2⟩
      rw [HS.out, HM.out, ← List.append_assoc]
      exact hown2

set_option maxHeartbeats 2000000 in
set_option maxRecDepth 100000 in
/-- putUvarint: x's varint behind the bytes of a slice that the call owns. -/
theorem put_own (B n cap x : Nat) (hx : x < 18446744073709551616) (a : Option Addr) (bs : List UInt8) (w : World) (hown : Own w B a n cap bs) (hB : B ≤ w.heap.size) (hlim : n + 10 ≤ 140737488355328) :
    Calls Try.prog 12 #[.slice a n cap, .int .u64 x] w fun e w' => ∃ a' k cap', e = .returned (.slice a' k cap') ∧ Own w' B a' k cap' (bs ++ Lib.uvarint x) ∧ Grew w w' a a' := by
  have hlen := Lib.uvarint_length64 hx
  go_enter Try.func12, Try.ntmps12
  go_wp2
  go_loopw [0, 1] (fun vb vx wr => ∃ (y : Nat) (pre : List UInt8) (a1 : Option Addr) (k1 cap1 : Nat), vb = .slice a1 k1 cap1 ∧ vx = .int .u64 y ∧ y ≤ x ∧ Lib.uvarint x = pre ++ Lib.uvarint y ∧ Own wr B a1 k1 cap1 (bs ++ pre) ∧ Grew w wr a a1)
    (fun _ vx _ => (intOf vx).toNat)
  case atStart => exact ⟨x, [], a, n, cap, rfl, rfl, Nat.le_refl _, rfl, by simpa using hown, Grew.refl w a⟩
  case round =>
    obtain ⟨y, pre, a1, k1, cap1, rfl, rfl, hy, hsplit, hown1, hgr⟩ := hrel
    have hpl : pre.length + (Lib.uvarint y).length ≤ 10 := by
      have h2 := congrArg List.length hsplit
      rw [List.length_append] at h2
      omega
    have hyp := Lib.uvarint_pos y
    have hk1 := hown1.len
    have hn := hown.len
    rw [List.length_append] at hk1
    have hk2 : k1 + 1 ≤ 140737488355328 := by omega
    have hsz := hgr.grown.size
    have HS : Hid (Lib.uvarint x = pre ++ Lib.uvarint y) := hsplit
    clear hsplit hk1 hn
    by_cases h128 : 128 ≤ y
    · have hor : bits .or .u8 ((y : Int) % 256) 128 = ((y % 128 + 128 : Nat) : Int) := by
        rw [Lib.u8_or128_any _ (by omega) (by omega)]
        omega
      have hb : ((y % 128 + 128).toUInt8).toNat = y % 128 + 128 := Lib.toUInt8_toNat (by omega)
      go_wp2_with (at_builtin; refine wpList_app _ rfl _ _ rfl B a1 k1 cap1 (bs ++ pre) rfl (hown1.alloc _) _ 1 1 [(y % 128 + 128).toUInt8] rfl (src_one _ _ _ _ ?e1) ?e2 ?e3 ?_; (case e1 => omega); (case e2 => omega); (case e3 => simp; omega); intro a2 k2 cap2 w2 hown2 hgr2; clear hb)
      go_roundw
      case rel =>
        refine ⟨y / 128, pre ++ [(y % 128 + 128).toUInt8], a2, k2, cap2, rfl, by go_num, by omega, by rw [HS.out, Lib.uvarint_big h128]; simp, by rw [← List.append_assoc]; exact hown2, (hgr.alloc _).trans hgr2⟩
      case measure => simp [intOf]; omega
    · have hsm : Lib.uvarint y = [y.toUInt8] := Lib.uvarint_small (by omega)
      have HM : Hid (Lib.uvarint y = [y.toUInt8]) := hsm
      clear hsm
      have hb : (y.toUInt8).toNat = y := Lib.toUInt8_toNat (by omega)
      go_wp2_with (at_builtin; refine wpList_app _ rfl _ _ rfl B a1 k1 cap1 (bs ++ pre) rfl (hown1.alloc _) _ 1 1 [y.toUInt8] rfl (src_one _ _ _ _ ?e1) ?e2 ?e3 ?_; (case e1 => omega); (case e2 => omega); (case e3 => simp; omega); intro a2 k2 cap2 w2 hown2 hgr2; clear hb)
      go_ret
      refine ⟨a2, k2, cap2, rfl, ?_, (hgr.alloc _).trans hgr2⟩
      rw [HS.out, HM.out, ← List.append_assoc]
      exact hown2

end Go.Proofs.Qxb6632497a
