/- EncodeBatch of no command; EncodeBatch whole; sameBytes. -/
import Derived.Test.Qxb6632497aBatch
import Derived.BigQuiet
namespace Go.Proofs.Qxb6632497a
open Go.RowKit
attribute [local go_sem ↓] Go.wp_at_zero Go.wp_at_succ

set_option maxHeartbeats 2000000 in
set_option maxRecDepth 100000 in
/-- EncodeBatch of no command. -/
theorem batch_zero (a : Option Addr) (cap : Nat) (w : World) :
    Calls Try.prog 7 #[.slice a 0 cap] w fun e w' => ∃ a' k cap', e = .returned (.slice a' k cap') ∧ Own w' w.heap.size a' k cap' (batch []) ∧ Below w.heap.size w w' := by
  have hln : (Lib.uvarint 0).length = 1 := by rw [Lib.uvarint_small (by omega)]; rfl
  obtain ⟨i0, hi, hz0, hz1, hz2⟩ := info_parts Try.info5
  have hus := us_any 0 (by omega)
  rw [hln] at hus
  have hmk : ∀ W : World, (Instr.makeSlice 24 (.int .i64 0) (.int .i64 2)).run Try.prog W = .ok (.slice (some ⟨W.heap.size, 0, none⟩) 0 2) (W.alloc (.cells (madeCells (Value.int .u8 0).cells 2) 5)) := by
    intro W
    have := run_make (P := Try.prog) W 24 5 i0 (.int .u8 0) Try.underlying24 hi hz0 .i64 .i64 0 2 (Int.le_refl _) (by omega) (by rw [hz2]; omega) (by omega)
    simpa [hz1] using this
  have HU : Hid _ := hus
  have HM : Hid _ := hmk
  clear hus hln hmk hi hz0 hz1 hz2
  go_enter Try.func7, Try.ntmps7
  go_wp2_with (go_at_call 16; refine (HU.out _).mono ?_; rintro e w1 ⟨rfl, hb1⟩)
  refine wp_loop_rounds 1 ?_
  rw [rounds_succ]
  have hmk := HM.out
  have hzr := hb1.size
  have hownM : Own (w1.alloc (.cells (madeCells (Value.int .u8 0).cells 2) 5)) w.heap.size (some ⟨w1.heap.size, 0, none⟩) 0 2 [] := World.ownsRow_made w1 _ 2 hzr (by unfold maxLen; omega) (by rw [size_madeCells])
  have hbM : Below w.heap.size w ((w1.alloc (.cells (madeCells (Value.int .u8 0).cells 2) 5)).alloc (.cells #[Value.int .u8 0] 5)) := (hb1.alloc hzr _).alloc (by simp; omega) _
  go_wp2_with (first
    | (at_builtin; refine wpList_app _ rfl _ _ rfl w.heap.size _ 0 2 [] rfl (hownM.alloc _) _ 1 1 [0] rfl (src_at _ _ _ _ _ ?e0 rfl) ?e2 ?e3 ?_; (case e0 => simp); (case e2 => omega); (case e3 => simp; omega); intro a1 k1 cap1 w3 hown3 hg3
       have hb3 : Below w.heap.size w w3 := hbM.trans (hg3.below (hownM.alloc _) (by simp; omega))
       have hk1 : k1 ≤ 10 := by have h1 := hown3.len; simp at h1; omega)
    | (go_at_call 18; refine (auv_own w.heap.size k1 cap1 0 (by omega) a1 _ _ hown3 hb3.size (by omega)).mono ?_; rintro e w4 ⟨a4, k4, cap4, rfl, hown4, hg4⟩
       have hb4 : Below w.heap.size w w4 := hb3.trans (hg4.below hown3 hb3.size)))
  refine wp_loop_rounds 1 ?_
  rw [rounds_succ]
  go_wp2
  go_ret
  exact ⟨a4, k4, cap4, rfl, by simpa [batch, hdr, entries] using hown4, hb4⟩

/-- EncodeBatch. -/
theorem batch_any (cs : List Cm) (a : Option Addr) (n cap : Nat) (w : World) (hn : n = cs.length) (hm : n ≤ 1000000) (hc : n = 0 ∨ ∃ b off, a = some ⟨b, off, none⟩ ∧ CmdsAt w b off cs) :
    Calls Try.prog 7 #[.slice a n cap] w fun e w' => ∃ a' k cap', e = .returned (.slice a' k cap') ∧ Own w' w.heap.size a' k cap' (batch (cs.map (·.pc))) ∧ Below w.heap.size w w' := by
  by_cases h0 : n = 0
  · have : cs = [] := List.eq_nil_of_length_eq_zero (by omega)
    subst this
    rw [h0]
    exact batch_zero a cap w
  · rcases hc with h | ⟨b, off, rfl, hc⟩
    · exact absurd h h0
    · by_cases h1 : n = 1
      · obtain ⟨c, rfl⟩ := List.length_eq_one_iff.1 (hn.symm.trans h1)
        obtain ⟨hb, hok⟩ := hc 0 (by simp)
        have e1 : batch (([c] : List Cm).map (·.pc)) = enc c.pc := rfl
        have hb' : BoxAt w b off c := by simpa using hb
        have hok' : CmOk w w.heap.size c := hok
        rw [h1, e1]
        exact batch_one c b off cap w hb' hok'
      · exact batch_some cs b off cap n w hn (by omega) hm hc

theorem src_cell {w : World} {a : Option Addr} {n : Nat} {bs : List UInt8} (h : Src8 w a n bs) (hn : 0 < n) : ∃ b off, a = some ⟨b, off, none⟩ ∧ ∀ j (hj : j < bs.length), w.cell? ⟨b, off + j, none⟩ = some (.int .u8 bs[j].toNat) := by
  rcases h with ⟨h1, h2 | ⟨b, off, ha, hc⟩⟩
  · omega
  · exact ⟨b, off, ha, fun j hj => hc j _ (by simp [Lib.byteCells, List.getElem?_eq_getElem hj])⟩

set_option maxHeartbeats 2000000 in
set_option maxRecDepth 100000 in
/-- sameBytes, lengths alike and not nought. -/
theorem same_some (w : World) (p o q r n c1 c2 : Nat) (xs bs : List UInt8) (ha : n = xs.length) (hb : n = bs.length) (h0 : 0 < n) (hm : n ≤ 140737488355328)
    (hA : ∀ j (hj : j < xs.length), w.cell? ⟨p, o + j, none⟩ = some (.int .u8 xs[j].toNat)) (hB : ∀ j (hj : j < bs.length), w.cell? ⟨q, r + j, none⟩ = some (.int .u8 bs[j].toNat)) :
    Calls Try.prog 13 #[.slice (some ⟨p, o, none⟩) n c1, .slice (some ⟨q, r, none⟩) n c2] w fun e w' => e = .returned (.bool (xs == bs)) ∧ Below w.heap.size w w' := by
  have HA : Hid (n = xs.length) := ha
  have HB : Hid (n = bs.length) := hb
  clear ha hb
  go_enter Try.func13, Try.ntmps13
  go_wp2
  go_loopw [5] (fun vi wr => ∃ j : Nat, j ≤ n ∧ vi = .int .i64 j ∧ Below w.heap.size w wr ∧ (∀ a, wr.cell? a = w.cell? a) ∧ xs.take j = bs.take j) (fun vi _ => n - (intOf vi).toNat)
  case atStart => exact ⟨0, Nat.zero_le _, rfl, Below.refl _ _, fun _ => rfl, rfl⟩
  case round =>
    obtain ⟨j, hj, rfl, hbe, hcl, htk⟩ := hrel
    have HT : Hid (xs.take j = bs.take j) := htk
    have HC : Hid (∀ a, wr.cell? a = w.cell? a) := hcl
    clear htk hcl
    by_cases hlt : j < n
    · have ja : j < xs.length := by have := HA.out; omega
      have jb : j < bs.length := by have := HB.out; omega
      have cA : wr.cell? ⟨p, o + j, none⟩ = some (.int .u8 xs[j].toNat) := by rw [HC.out]; exact hA j ja
      have cB : wr.cell? ⟨q, r + j, none⟩ = some (.int .u8 bs[j].toNat) := by rw [HC.out]; exact hB j jb
      have i1 : (0 : Int) ≤ (j : Int) := by omega
      have i2 : (j : Int) < (n : Int) := by omega
      have HEQ : Hid (((xs[j].toNat : Int) != (bs[j].toNat : Int)) = (xs[j] != bs[j])) := by
        show _ = _
        by_cases e : xs[j] = bs[j]
        · simp [e]
        · have : xs[j].toNat ≠ bs[j].toNat := fun h => e (UInt8.toNat_inj.1 h)
          rw [show ((xs[j].toNat : Int) != (bs[j].toNat : Int)) = true from bne_iff_ne.2 (by omega), show (xs[j] != bs[j]) = true from bne_iff_ne.2 e]
      by_cases he : xs[j] = bs[j]
      · have he' : ((xs[j].toNat : Int) != (bs[j].toNat : Int)) = false := by rw [HEQ.out]; simp [he]
        go_wp2
        go_region_held3 (fun w' => w'.cell? ⟨p, o + j, none⟩ = some (.int .u8 xs[j].toNat) ∧ w'.cell? ⟨q, r + j, none⟩ = some (.int .u8 bs[j].toNat)) (simp [go_sem, cA, cB]) (fail)
        go_wp2
        go_roundw
        case rel => exact ⟨j + 1, by omega, by go_num, hbe.drew, fun a => HC.out a, by rw [List.take_succ_eq_append_getElem ja, List.take_succ_eq_append_getElem jb, HT.out, he]⟩
        case measure => simp [intOf]; omega
      · have he' : ((xs[j].toNat : Int) != (bs[j].toNat : Int)) = true := by rw [HEQ.out]; simp [he]
        have HN : Hid ((xs == bs) = false) := by
          show (xs == bs) = false
          rw [beq_eq_false_iff_ne]
          intro h
          apply he
          simp [h]
        go_wp2
        go_region_held3 (fun w' => w'.cell? ⟨p, o + j, none⟩ = some (.int .u8 xs[j].toNat) ∧ w'.cell? ⟨q, r + j, none⟩ = some (.int .u8 bs[j].toNat)) (simp [go_sem, cA, cB]) (fail)
        go_wp2
        go_ret
        exact ⟨by rw [HN.out]; rfl, hbe.drew⟩
    · have hab : (xs == bs) = true := by
        have h1 := HT.out
        rw [List.take_of_length_le (by have := HA.out; omega), List.take_of_length_le (by have := HB.out; omega)] at h1
        simpa using h1
      have HE : Hid ((xs == bs) = true) := hab
      clear hab
      go_wp2
      go_ret
      exact ⟨by rw [HE.out]; rfl, hbe⟩

set_option maxHeartbeats 1000000 in
/-- sameBytes. -/
theorem same_any (w : World) (a b : Option Addr) (n m c1 c2 : Nat) (xs bs : List UInt8) (hA : Src8 w a n xs) (hB : Src8 w b m bs) (hm : n ≤ 140737488355328) (hm' : m ≤ 140737488355328) :
    Calls Try.prog 13 #[.slice a n c1, .slice b m c2] w fun e w' => e = .returned (.bool (xs == bs)) ∧ Below w.heap.size w w' := by
  have ha := hA.1
  have hb := hB.1
  by_cases hnm : n = m
  · subst hnm
    by_cases h0 : n = 0
    · have ea : xs = [] := List.eq_nil_of_length_eq_zero (by omega)
      have eb : bs = [] := List.eq_nil_of_length_eq_zero (by omega)
      subst ea eb
      rw [h0]
      clear hA hB ha hb h0 hm hm'
      go_enter Try.func13, Try.ntmps13
      go_wp2
      refine wp_loop_rounds 1 ?_
      rw [rounds_succ]
      go_wp2
      go_ret
      exact ⟨rfl, Below.refl _ _⟩
    · obtain ⟨p, o, rfl, kA⟩ := src_cell hA (by omega)
      obtain ⟨q, r, rfl, kB⟩ := src_cell hB (by omega)
      exact same_some w p o q r n c1 c2 xs bs ha hb (by omega) hm kA kB
  · have hne : ((n : Int) != (m : Int)) = true := by simp; omega
    have HN : Hid ((xs == bs) = false) := by
      show (xs == bs) = false
      rw [beq_eq_false_iff_ne]
      intro h
      rw [h] at ha
      omega
    clear ha hb
    go_enter Try.func13, Try.ntmps13
    go_wp2
    go_ret
    exact ⟨by rw [HN.out]; rfl, Below.refl _ _⟩

end Go.Proofs.Qxb6632497a
