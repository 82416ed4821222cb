/- EncodeBatch: the walk. -/
import Derived.Test.Qxb6632497aApp
namespace Go.Proofs.Qxb6632497a
open Go.RowKit
attribute [local go_sem ↓] Go.wp_at_zero Go.wp_at_succ

/-- One entry of a batch. -/
def entry (c : PC) : List UInt8 := Lib.uvarint (enc c).length ++ enc c
def entries (cs : List PC) : List UInt8 := cs.flatMap entry
def hdr (n : Nat) : List UInt8 := [0] ++ Lib.uvarint n
def batch (cs : List PC) : List UInt8 := match cs with
  | [c] => enc c
  | _ => hdr cs.length ++ entries cs
theorem batch_many (cs : List PC) (h : cs.length ≠ 1) : batch cs = hdr cs.length ++ entries cs := by
  match cs, h with
  | [], _ => rfl
  | [_], h => exact absurd rfl h
  | _ :: _ :: _, _ => rfl
theorem entries_snoc (cs : List PC) (c : PC) : entries (cs ++ [c]) = entries cs ++ entry c := by simp [entries]

/-- The commands of a slice: block b, from place off on, four cells each. -/
def CmdsAt (w : World) (b off : Nat) (cs : List Cm) : Prop := ∀ i (hi : i < cs.length), BoxAt w b (off + i * 4) cs[i] ∧ CmOk w w.heap.size cs[i]

theorem CmOk.enc_le {w : World} {B : Nat} {c : Cm} (h : CmOk w B c) : (enc c.pc).length ≤ 4000000 := by
  have hk := h.kl; have hp := h.pl; have hv := h.vl
  have hkl := h.k.1; have hpl := h.p.1; have hvl := h.v.1
  have hlk := Lib.uvarint_length64 (x := c.pc.ks.length) (by omega)
  have hlp := Lib.uvarint_length64 (x := c.pc.ps.length) (by omega)
  rw [enc_len]
  split <;> omega

set_option maxHeartbeats 1000000 in
/-- EncodeBatch of one command. -/
theorem batch_one (c : Cm) (b off cap : Nat) (w : World) (hb : BoxAt w b off c) (hok : CmOk w w.heap.size c) :
    Calls Try.prog 7 #[.slice (some ⟨b, off, none⟩) 1 cap] w fun e w' => ∃ a' k cap', e = .returned (.slice a' k cap') ∧ Own w' w.heap.size a' k cap' (enc c.pc) ∧ Below w.heap.size w w' := by
  obtain ⟨c0, c1, c2, c3⟩ := hb
  go_enter Try.func7, Try.ntmps7
  go_wp2_with (go_at_call 15; refine (encode_any c w.heap.size _ hok (Nat.le_refl _)).mono ?_; rintro e w' ⟨a', k, cap', rfl, ho, hbl⟩)
  go_ret
  exact ⟨a', k, cap', rfl, ho, hbl⟩

set_option maxHeartbeats 4000000 in
set_option maxRecDepth 100000 in
/-- EncodeBatch of two commands or more. -/
theorem batch_some (cs : List Cm) (b off cap n : Nat) (w : World) (hn : n = cs.length) (h2 : 2 ≤ n) (hm : n ≤ 1000000) (hc : CmdsAt w b off cs) :
    Calls Try.prog 7 #[.slice (some ⟨b, off, none⟩) n cap] w fun e w' => ∃ a' k cap', e = .returned (.slice a' k cap') ∧ Own w' w.heap.size a' k cap' (batch (cs.map (·.pc))) ∧ Below w.heap.size w w' := by
  have h1 : ((n : Int) == 1) = false := by simp; omega
  have hbl : b < w.heap.size := by
    have := (hc 0 (by omega)).1.c0
    apply Nat.lt_of_not_le
    intro hle
    simp [World.cell?, Array.getElem?_eq_none hle] at this
  have hln := Lib.uvarint_length64 (x := n) (by omega)
  have HN : Hid (n = cs.length) := hn
  clear hn
  go_enter Try.func7, Try.ntmps7
  go_wp2_with (go_at_call 16; refine (us_any n (by omega) _).mono ?_; rintro e w1 ⟨rfl, hb1⟩)
  go_loopw [3, 22] (fun vn vi wr => ∃ (k : Nat) (t : Int), k ≤ n ∧ vi = .int .i64 k ∧ vn = .int .i64 t ∧ 0 ≤ t ∧ t ≤ 100 + k * 5000000 ∧ Below w.heap.size w wr) (fun _ vi _ => n - (intOf vi).toNat)
  case atStart => exact ⟨0, _, Nat.zero_le _, rfl, rfl, by omega, by omega, hb1⟩
  case round =>
    obtain ⟨k, t, hk, rfl, rfl, ht0, ht1, hbr⟩ := hrel
    by_cases hlt : k < n
    · obtain ⟨hbx, hok⟩ := hc k (by have := HN.out; omega)
      have hbx1 := hbx.below hbr hbl
      have hok1 := hok.below hbr
      generalize cs[k] = c at hbx hok hbx1 hok1
      obtain ⟨c0, c1, c2, c3⟩ := hbx1
      have i1 : (0 : Int) ≤ (k : Int) := by omega
      have i2 : (k : Int) < (n : Int) := by omega
      have hLl := hok.enc_le
      have hsz := fun W hW => size_any c W w.heap.size hW
      obtain ⟨L, hL⟩ : ∃ L, (enc c.pc).length = L := ⟨_, rfl⟩
      rw [hL] at hLl hsz
      have HSZ : Hid _ := hsz
      have hlL := Lib.uvarint_length64 (x := L) (by omega)
      clear hL hsz
      have q1 : IntKind.i64.wrap (((Lib.uvarint L).length : Int) + (L : Int)) = ((Lib.uvarint L).length : Int) + (L : Int) := wrap_small _ (by omega) (by omega)
      have q2 : IntKind.i64.wrap (t + (((Lib.uvarint L).length : Int) + (L : Int))) = t + (((Lib.uvarint L).length : Int) + (L : Int)) := wrap_small _ (by omega) (by omega)
      have hzr := hbr.size
      have hbx0 := box_new wr c 37
      have hkeep : ∀ w', Below (wr.heap.size + 1) (wr.alloc (.cells #[.int .u8 c.pc.op.toNat, .slice c.ka c.kn c.kc, .slice c.pa c.pn c.pcap, .slice c.va c.vn c.vc] 37)) w' →
          w'.cell? ⟨wr.heap.size, 0, none⟩ = some (.int .u8 c.pc.op.toNat) ∧ w'.cell? ⟨wr.heap.size, 1, none⟩ = some (.slice c.ka c.kn c.kc) ∧ w'.cell? ⟨wr.heap.size, 2, none⟩ = some (.slice c.pa c.pn c.pcap) ∧ w'.cell? ⟨wr.heap.size, 3, none⟩ = some (.slice c.va c.vn c.vc) := fun w' hb => by
        obtain ⟨k0, k1, k2, k3⟩ := hbx0.below hb (by omega)
        exact ⟨k0, k1, k2, k3⟩
      have HKP : Hid _ := hkeep
      clear hkeep
      go_wp2
      have hacc : Below (wr.heap.size + 1) (wr.alloc (.cells #[.int .u8 c.pc.op.toNat, .slice c.ka c.kn c.kc, .slice c.pa c.pn c.pcap, .slice c.va c.vn c.vc] 37)) (wr.alloc (.cells #[.int .u8 c.pc.op.toNat, .slice c.ka c.kn c.kc, .slice c.pa c.pn c.pcap, .slice c.va c.vn c.vc] 37)).drew := (Below.refl _ _).drew
      have hokA : CmOk (wr.alloc (.cells #[.int .u8 c.pc.op.toNat, .slice c.ka c.kn c.kc, .slice c.pa c.pn c.pcap, .slice c.va c.vn c.vc] 37)) w.heap.size c := hok1.below ((Below.refl _ _).alloc hzr _)
      go_region_held3 (fun w' => w'.cell? ⟨wr.heap.size, 0, none⟩ = some (.int .u8 c.pc.op.toNat) ∧ w'.cell? ⟨wr.heap.size, 1, none⟩ = some (.slice c.ka c.kn c.kc) ∧ w'.cell? ⟨wr.heap.size, 2, none⟩ = some (.slice c.pa c.pn c.pcap) ∧ w'.cell? ⟨wr.heap.size, 3, none⟩ = some (.slice c.va c.vn c.vc))
        (exact HKP.out _ hacc)
        (first
          | (go_at_call 17; refine (HSZ.out _ (hokA.below (hacc.mono (by omega)))).mono ?_; rintro e w2 ⟨rfl, hb2⟩
             replace hacc := hacc.trans (hb2.mono (Nat.le_trans (by simp) hacc.size))
             clear hb2)
          | (go_at_call 16; refine (us_any L (by omega) _).mono ?_; rintro e w2 ⟨rfl, hb2⟩
             replace hacc := hacc.trans (hb2.mono (Nat.le_trans (by simp) hacc.size))
             clear hb2))
      go_wp2
      go_roundw
      case rel => exact ⟨k + 1, _, by omega, by go_num, rfl, by omega, by omega, (hbr.alloc hzr _).trans (hacc.mono (by omega))⟩
      case measure => simp [intOf]; omega
    · have ek : k = n := by omega
      subst ek
      clear hlt hk h1
      obtain ⟨T, rfl⟩ : ∃ T : Nat, t = (T : Int) := ⟨t.toNat, by omega⟩
      obtain ⟨i0, hi, hz0, hz1, hz2⟩ := info_parts Try.info5
      have hT : (T : Int) ≤ 100000000000000 := by omega
      have hmk : ∀ W : World, (Instr.makeSlice 24 (.int .i64 0) (.int .i64 (T : Int))).run Try.prog W = .ok (.slice (some ⟨W.heap.size, 0, none⟩) 0 T) (W.alloc (.cells (madeCells (Value.int .u8 0).cells T) 5)) := by
        intro W
        have := run_make (P := Try.prog) W 24 5 i0 (.int .u8 0) Try.underlying24 hi hz0 .i64 .i64 0 T (Int.le_refl _) (by omega) (by rw [hz2]; omega) (by omega)
        simpa [hz1] using this
      have hzr := hbr.size
      have hownM : Own (wr.alloc (.cells (madeCells #[Value.int .u8 0] T) 5)) w.heap.size (some ⟨wr.heap.size, 0, none⟩) 0 T [] := World.ownsRow_made wr _ T hzr (by unfold maxLen; omega) (by rw [size_madeCells]; omega)
      have hbM : Below w.heap.size w ((wr.alloc (.cells (madeCells #[Value.int .u8 0] T) 5)).alloc (.cells #[Value.int .u8 0] 5)) := (hbr.alloc hzr _).alloc (by simp; omega) _
      go_wp2_with (first
        | (at_builtin; refine wpList_app _ rfl _ _ rfl w.heap.size _ 0 T [] rfl (hownM.alloc _) _ 1 1 [0] rfl (src_at _ _ _ _ _ ?e0 rfl) ?e2 ?e3 ?_; (case e0 => simp); (case e2 => omega); (case e3 => simp; omega); intro a1 k1 cap1 w3 hown3 hg3
           have hb3 : Below w.heap.size w w3 := hbM.trans (hg3.below (hownM.alloc _) (by simp; omega))
           have hk1 : k1 ≤ 10 := by have h1 := hown3.len; simp at h1; omega)
        | (go_at_call 18; refine (auv_own w.heap.size k1 cap1 k (by omega) a1 _ _ hown3 hb3.size (by omega)).mono ?_; rintro e w4 ⟨a4, k4, cap4, rfl, hown4, hg4⟩
           have hb4 : Below w.heap.size w w4 := hb3.trans (hg4.below hown3 hb3.size)
           have hk4 : k4 ≤ 100 := by have h1 := hown4.len; simp at h1; omega))
      have hkc : k = cs.length := HN.out
      have HK0 : Hid (Own w4 w.heap.size a4 k4 cap4 (hdr k ++ entries ((cs.take 0).map (·.pc)))) := by
        show Own _ _ _ _ _ _
        have : hdr k ++ entries ((cs.take 0).map (·.pc)) = [] ++ [0] ++ Lib.uvarint k := by simp [hdr, entries]
        rw [this]; exact hown4
      clear hkc hmk hownM hbM hown3 hown4 hg3 hg4 hb3 hbr hi hz0 hz1 hz2
      go_loopw [6, 47] (fun vb vi wx => ∃ (j : Nat) (a5 : Option Addr) (k5 cap5 : Nat), j ≤ k ∧ vi = .int .i64 j ∧ vb = .slice a5 k5 cap5 ∧ k5 ≤ 100 + j * 5000000 ∧ Own wx w.heap.size a5 k5 cap5 (hdr k ++ entries ((cs.take j).map (·.pc))) ∧ Below w.heap.size w wx) (fun _ vi _ => k - (intOf vi).toNat)
      case atStart => exact ⟨0, a4, k4, cap4, Nat.zero_le _, rfl, rfl, by omega, HK0.out, hb4⟩
      case round =>
        clear HK0 hb4
        obtain ⟨j, a5, k5, cap5, hj, rfl, rfl, hk5, hown5, hb5⟩ := hrel
        by_cases hlt : j < k
        · have hjc : j < cs.length := by have := HN.out; omega
          obtain ⟨hbx, hok⟩ := hc j hjc
          have hbx1 := hbx.below hb5 hbl
          have hok1 := hok.below hb5
          have HT : Hid (hdr k ++ entries ((cs.take (j + 1)).map (·.pc)) = hdr k ++ entries ((cs.take j).map (·.pc)) ++ Lib.uvarint (enc cs[j].pc).length ++ enc cs[j].pc) := by
            show _ = _
            rw [List.take_succ_eq_append_getElem hjc, List.map_append, List.map_singleton, entries_snoc]
            simp [entry, List.append_assoc]
          generalize cs[j] = c at hbx hok hbx1 hok1 HT
          obtain ⟨c0, c1, c2, c3⟩ := hbx1
          have i1 : (0 : Int) ≤ (j : Int) := by omega
          have i2 : (j : Int) < (k : Int) := by omega
          have hLl := hok.enc_le
          have hsz := fun W hW => size_any c W w.heap.size hW
          obtain ⟨L, hL⟩ : ∃ L, (enc c.pc).length = L := ⟨_, rfl⟩
          rw [hL] at hLl hsz HT
          have HSZ : Hid _ := hsz
          have HL : Hid ((enc c.pc).length = L) := hL
          have hlL := Lib.uvarint_length64 (x := L) (by omega)
          clear hL hsz
          have hzr := hb5.size
          have hbx0 := box_new wr c 37
          have hokA : CmOk (wr.alloc (.cells #[.int .u8 c.pc.op.toNat, .slice c.ka c.kn c.kc, .slice c.pa c.pn c.pcap, .slice c.va c.vn c.vc] 37)) w.heap.size c := hok1.below ((Below.refl _ _).alloc hzr _)
          have hne5 : blk a5 ≠ some wr.heap.size := fun e => by have := (hown5.blk_ge e).2; omega
          go_wp2_with (first
            | (go_at_call 17; refine (HSZ.out _ hokA).mono ?_; rintro e w6 ⟨rfl, hb6⟩
               have hown6 := (hown5.alloc (.cells #[.int .u8 c.pc.op.toNat, .slice c.ka c.kn c.kc, .slice c.pa c.pn c.pcap, .slice c.va c.vn c.vc] 37)).below hb6
               have hs6 := hb6.size
               simp at hs6
               have hbx6 := hbx0.below hb6 (by simp)
               have hok6 := hokA.below (hb6.mono (by simp; omega))
               have hbe6 : Below w.heap.size w w6 := (hb5.alloc hzr _).trans (hb6.mono (by simp; omega))
               clear hb6)
            | (go_at_call 18; refine (auv_own w.heap.size k5 cap5 L (by omega) a5 _ _ hown6 (by omega) (by omega)).mono ?_; rintro e w7 ⟨a7, k7, cap7, rfl, hown7, hg7⟩
               have hs7 := hg7.grown.size
               have hbx7 := hbx6.grew hg7 (by omega) hne5
               have hok7 := hok6.below (hg7.below hown6 (by omega))
               have hbe7 : Below w.heap.size w w7 := hbe6.trans (hg7.below hown6 (by omega))
               have hk7 : k7 ≤ 110 + j * 5000000 := by have h1 := hown7.len; have h2 := hown6.len; simp at h1 h2; omega
               obtain ⟨d0, d1, d2, d3⟩ := hbx7)
            | (go_at_call 19; refine (at_any c w.heap.size k7 cap7 a7 _ _ hok7 hown7 (by omega) (by omega)).mono ?_; rintro e w8 ⟨a8, k8, cap8, rfl, hown8, hg8⟩
               have hbe8 : Below w.heap.size w w8 := hbe7.trans (hg8.below hown7 (by omega))
               have hk8 : k8 ≤ 100 + (j + 1) * 5000000 := by have h1 := hown8.len; have h2 := hown7.len; have h3 := HL.out; simp at h1 h2; omega))
          go_roundw
          case rel => exact ⟨j + 1, a8, k8, cap8, by omega, by go_num, rfl, hk8, by rw [HT.out]; exact hown8, hbe8⟩
          case measure => simp [intOf]; omega
        · have ej : j = k := by omega
          subst ej
          go_wp2
          go_ret
          refine ⟨a5, k5, cap5, rfl, ?_, hb5⟩
          have hjc : j = cs.length := HN.out
          rw [batch_many _ (by rw [List.length_map]; omega), List.length_map, ← hjc]
          rw [List.take_of_length_le (by omega)] at hown5
          exact hown5

end Go.Proofs.Qxb6632497a
