/- zzBuild: the walk. -/
import Derived.Test.Qxb6632608aConv
import Derived.Test.Qxb6632608aChain
namespace Go.Proofs.Qxb6632608a
open Go.RowKit
attribute [local go_sem ↓] Go.wp_at_zero Go.wp_at_succ

theorem Onw.setVar {B H : Nat} {w : World} (u v : Value) (h : H < B) : Onw B w ((w.setCell ⟨H, 0, none⟩ u).setCell ⟨H, 1, none⟩ v) := fun g hg _ => by
  rw [Below.heap_setCell _ _ _ _ (by show g ≠ H; omega), Below.heap_setCell _ _ _ _ (by show g ≠ H; omega)]
theorem VarW.other {w : World} {H K : Nat} {p a : Option Addr} {m c : Nat} (h : VarW w H p a m c) (u v : Value) (hne : H ≠ K) : VarW ((w.setCell ⟨K, 0, none⟩ u).setCell ⟨K, 1, none⟩ v) H p a m c := by
  have e : ((w.setCell ⟨K, 0, none⟩ u).setCell ⟨K, 1, none⟩ v).heap[H]? = w.heap[H]? := by
    rw [Below.heap_setCell _ _ _ _ (by show H ≠ K; exact hne), Below.heap_setCell _ _ _ _ (by show H ≠ K; exact hne)]
  exact ⟨(World.cell?_of_block (w := w) (a := ⟨H, 0, none⟩) e).trans h.c0, (World.cell?_of_block (w := w) (a := ⟨H, 1, none⟩) e).trans h.c1, (World.frozen?_of_block (w := w) (a := ⟨H, 0, none⟩) e).trans h.f0, (World.frozen?_of_block (w := w) (a := ⟨H, 1, none⟩) e).trans h.f1⟩
theorem VarW.put {w : World} {H : Nat} {p a : Option Addr} {m c : Nat} (h : VarW w H p a m c) (p' a' : Option Addr) (m' c' : Nat) : VarW ((w.setCell ⟨H, 0, none⟩ (.pointer p')).setCell ⟨H, 1, none⟩ (.slice a' m' c')) H p' a' m' c' := by
  have h0 := h.c0
  have h1 := h.c1
  have f0 := h.f0
  have f1 := h.f1
  exact ⟨by simp [go_sem, h0], by simp [go_sem, h1], by simp [go_sem, f0], by simp [go_sem, f1]⟩

set_option maxHeartbeats 2000000 in
set_option maxRecDepth 100000 in
/-- zzBuild, one segment or more. -/
theorem bd_some (ss : List Sg) (b off n cap : Nat) (w : World) (hn : n = ss.length) (h0 : 0 < n) (hm : n ≤ 65536) (h : InAt w b off ss) (hs : ∀ s ∈ ss, Sml s) (hj : (joined ss).length ≤ 32768) :
    Calls Try.prog 7 #[.slice (some ⟨b, off, none⟩) n cap] w fun e w' => ∃ p a m c, e = .returned (.agg #[.pointer p, .slice a m c]) ∧ Ch w' (w.heap.size + 2) (rsOf ss) p a m ∧ Below w.heap.size w w' := by
  have hbl : b < w.heap.size := World.block_lt_of_cell? w ⟨b, off + 0, none⟩ (h 0 (by omega)).1
  have HN : Hid (n = ss.length) := hn
  clear hn
  have h0c : 0 < ss.length := by have := HN.out; omega
  have c00 := (h 0 h0c).1
  rw [Nat.add_zero] at c00
  have hsm0 := (hs ss[0] (List.getElem_mem h0c)).1
  have hin0 := (h 0 h0c).2
  have HR1 : Hid (rsOf (ss.take 1) = [ss[0].ts]) := by
    show _ = _
    have := rsOf_take_succ ss 0 h0c
    simpa [rsOf] using this
  generalize ss[0] = s0 at c00 hsm0 hin0 HR1
  have i0 : (0 : Int) < (n : Int) := by omega
  have i00 : ((n : Int) == 0) = false := by simp; omega
  have _nb : ¬ b = w.heap.size + 1 := by omega
  have _nb0 : ¬ b = w.heap.size := by omega
  go_enter Try.func7, Try.ntmps7
  go_wp2_with fail
  have hbA : Below w.heap.size w ((w.alloc (.cells #[.pointer none, .slice none 0 0] 28)).alloc (.cells #[.pointer none, .slice none 0 0] 28)) := ((Below.refl _ _).alloc (Nat.le_refl _) _).alloc (by simp) _
  have vwA : VarW ((w.alloc (.cells #[.pointer none, .slice none 0 0] 28)).alloc (.cells #[.pointer none, .slice none 0 0] 28)) w.heap.size none none 0 0 := ⟨by simp [go_sem], by simp [go_sem], by simp [go_sem], by simp [go_sem]⟩
  have vwB : VarW ((w.alloc (.cells #[.pointer none, .slice none 0 0] 28)).alloc (.cells #[.pointer none, .slice none 0 0] 28)) (w.heap.size + 1) none none 0 0 := ⟨by simp [go_sem], by simp [go_sem], by simp [go_sem], by simp [go_sem]⟩
  have hzA : w.heap.size + 2 ≤ ((w.alloc (.cells #[.pointer none, .slice none 0 0] 28)).alloc (.cells #[.pointer none, .slice none 0 0] 28)).heap.size := by simp
  generalize ((w.alloc (.cells #[.pointer none, .slice none 0 0] 28)).alloc (.cells #[.pointer none, .slice none 0 0] 28)) = w2 at hbA vwA vwB hzA ⊢
  refine (cv_any s0.ts s0.a s0.n s0.c w2 (hin0.seg.below hbA) (by omega)).mono ?_
  rintro e w1 ⟨a1, rfl, hsg, hb1⟩
  have hz1 := hb1.size
  have vwA1 := vwA.below hb1 (by omega)
  have vwB1 := vwB.below hb1 (by omega)
  have hbw1 : Below w.heap.size w w1 := hbA.trans (hb1.mono (by omega))
  have d00 : w1.cell? ⟨b, off, none⟩ = some (.slice s0.a s0.n s0.c) := (hbw1.cell (p := ⟨b, off, none⟩) hbl).trans c00
  have hch : Ch ((w1.setCell ⟨w.heap.size + 1, 0, none⟩ (.pointer none)).setCell ⟨w.heap.size + 1, 1, none⟩ (.slice a1 s0.n s0.n)) (w.heap.size + 2) (rsOf (ss.take 1)) none a1 s0.n := by
    rw [HR1.out]
    exact Ch.onward (Onw.setVar _ _ (by omega)) [s0.ts] ⟨hsg.mono hzA, Or.inl ⟨rfl, rfl⟩⟩
  have vwB2 := vwB1.put none a1 s0.n s0.n
  have vwA2 := vwA1.other (.pointer none) (.slice a1 s0.n s0.n) (show w.heap.size ≠ w.heap.size + 1 by omega)
  have hbw2 : Below w.heap.size w ((w1.setCell ⟨w.heap.size + 1, 0, none⟩ (.pointer none)).setCell ⟨w.heap.size + 1, 1, none⟩ (.slice a1 s0.n s0.n)) := (hbw1.setCell (p := ⟨w.heap.size + 1, 0, none⟩) (by simp) _).setCell (p := ⟨w.heap.size + 1, 1, none⟩) (by simp) _
  have HT1 : Hid (tot (rsOf (ss.take 1)) = s0.n) := by
    show _ = _
    rw [HR1.out, tot_cons, ← hsg.1]
    rfl
  have HCH := hid hch
  have HB2 := hid vwB2
  have HA2 := hid vwA2
  have HBW := hid hbw2
  obtain ⟨g0, g1, g2, g3⟩ := vwB1
  have hzz : w.heap.size + 2 ≤ w1.heap.size := by omega
  clear hch vwB2 vwA2 hbw2 hbA vwA vwB c00 hsg hb1 vwA1
  go_wp2
  go_loopw [4, 5] (fun vn vi wr => ∃ (k : Nat) (p a : Option Addr) (m c : Nat), 1 ≤ k ∧ k ≤ n ∧ vi = .int .i64 k ∧ vn = .int .i64 (tot (rsOf (ss.take k)) : Nat) ∧ VarW wr (w.heap.size + 1) p a m c ∧ VarW wr w.heap.size none none 0 0 ∧ Ch wr (w.heap.size + 2) (rsOf (ss.take k)) p a m ∧ Below w.heap.size w wr ∧ w.heap.size + 2 ≤ wr.heap.size) (fun _ vi _ => n - (intOf vi).toNat)
  case atStart => exact ⟨1, none, a1, s0.n, s0.n, Nat.le_refl _, by omega, rfl, by rw [HT1.out], HB2.out, HA2.out, HCH.out, HBW.out, by simpa [World.setCell] using hzz⟩
  case round =>
    clear HB2 HA2 HCH HBW HT1 HR1 g0 g1 g2 g3 d00 hbw1 hzz hz1 hzA
    obtain ⟨k, p, a, m, c, hk1, hk, rfl, rfl, vB, vA, hch, hbr, hzr⟩ := hrel
    by_cases hlt : k < n
    · have hkc : k < ss.length := by have := HN.out; omega
      obtain ⟨c0, hin⟩ := (h.below hbr) k hkc
      have hsm := (hs ss[k] (List.getElem_mem hkc)).1
      have HRS := hid (rsOf_take_succ ss k hkc)
      have hle := joined_take_le ss k
      rw [← tot_rsOf] at hle
      generalize ss[k] = s at c0 hin hsm HRS
      obtain ⟨R, hR⟩ : ∃ R, rsOf (ss.take k) = R := ⟨_, rfl⟩
      rw [hR] at hch HRS hle
      rw [hR]
      obtain ⟨t, ht⟩ : ∃ t, tot R = t := ⟨_, rfl⟩
      rw [ht] at hle
      rw [ht]
      have HTT := hid ht
      clear ht hR
      obtain ⟨g0, g1, g2, g3⟩ := vB
      have i1 : (0 : Int) ≤ (k : Int) := by omega
      have i2 : (k : Int) < (n : Int) := by omega
      go_wp2_with (first
        | (go_at_call 13
           refine (nb_any _ _ _ p a m c wr).mono ?_
           rintro e w1 ⟨rfl, hb1, n2, n3, n4⟩
           have z1 := hb1.size
           have hin1 := hin.below hb1
           have d0 : w1.cell? ⟨b, off + k, none⟩ = some (.slice s.a s.n s.c) := (hb1.cell (p := ⟨b, off + k, none⟩) (by simp; omega)).trans c0)
        | (go_at_call 12
           refine (cv_any s.ts s.a s.n s.c w1 hin1.seg (by omega)).mono ?_
           rintro e w2 ⟨a2, rfl, hsg, hb2⟩
           have z2 := hb2.size
           have hb12 : Below wr.heap.size wr w2 := hb1.trans (hb2.mono z1)
           have vB2 : VarW w2 (w.heap.size + 1) p a m c := (VarW.mk g0 g1 g2 g3).below hb12 (by omega)
           have vA2 := vA.below hb12 (by omega)
           have e0 : w2.cell? ⟨b, off + k, none⟩ = some (.slice s.a s.n s.c) := (hb2.cell (p := ⟨b, off + k, none⟩) (by simp; omega)).trans d0
           have hchn : Ch w2 (w.heap.size + 2) (s.ts :: R) (some ⟨wr.heap.size + 2, 0, none⟩) a2 s.n := by
             have hl1 := World.block_lt_of_cell? w1 ⟨wr.heap.size + 2, 2, none⟩ n2
             refine ⟨hsg.mono (by omega), Or.inr ⟨wr.heap.size + 2, p, a, m, c, rfl, by omega, fun x hx => ?_, (hb2.cell (p := ⟨wr.heap.size + 2, 2, none⟩) hl1).trans n2, (hb2.cell (p := ⟨wr.heap.size + 2, 3, none⟩) hl1).trans n3, ?_, hch.below hb12⟩⟩
             · have := hch.lt x hx
               omega
             · rw [HTT.out]
               exact (hb2.cell (p := ⟨wr.heap.size + 2, 4, none⟩) hl1).trans n4
           have hchf := Ch.onward (Onw.setVar (w := w2) (.pointer (some ⟨wr.heap.size + 2, 0, none⟩)) (.slice a2 s.n s.n) (show w.heap.size + 1 < w.heap.size + 2 by omega)) (s.ts :: R) hchn
           have HCH := hid hchf
           have HVB := hid (vB2.put (some ⟨wr.heap.size + 2, 0, none⟩) a2 s.n s.n)
           have HVA := hid (vA2.other (.pointer (some ⟨wr.heap.size + 2, 0, none⟩)) (.slice a2 s.n s.n) (show w.heap.size ≠ w.heap.size + 1 by omega))
           have HBW : Hid (Below w.heap.size w ((w2.setCell ⟨w.heap.size + 1, 0, none⟩ (.pointer (some ⟨wr.heap.size + 2, 0, none⟩))).setCell ⟨w.heap.size + 1, 1, none⟩ (.slice a2 s.n s.n))) := ((hbr.trans (hb12.mono hbr.size)).setCell (p := ⟨w.heap.size + 1, 0, none⟩) (by simp) _).setCell (p := ⟨w.heap.size + 1, 1, none⟩) (by simp) _
           have hsl := hsg.1
           have HSL := hid hsl
           obtain ⟨q0, q1, q2, q3⟩ := vB2
           clear hchn hchf vA2 hsl hsg hin1))
      go_roundw
      case rel =>
        refine ⟨k + 1, _, a2, s.n, s.n, by omega, by omega, by go_num, ?_, HVB.out, HVA.out, ?_, HBW.out, by simp [World.setCell]; omega⟩
        · rw [HRS.out, tot_cons, HTT.out, ← HSL.out]
          congr 1
          omega
        · rw [HRS.out]
          exact HCH.out
      case measure => simp [intOf]; omega
    · have ek : k = n := by omega
      subst ek
      obtain ⟨g0, g1, g2, g3⟩ := vB
      obtain ⟨q0, q1, q2, q3⟩ := vA
      go_wp2
      (try simp only [Exit.inBlock, Exit.then])
      refine bodyPost_ret (v := .agg #[.pointer p, .slice a m c]) ?_ rfl ⟨p, a, m, c, rfl, ?_, ?_⟩
      · simp [results, Try.results7, go_sem, q0, q1]
      · rw [List.take_of_length_le (by have := HN.out; omega)] at hch
        exact Ch.onward (Onw.setVar _ _ (by omega)) _ hch
      · exact (hbr.setCell (p := ⟨w.heap.size, 0, none⟩) (Nat.le_refl _) _).setCell (p := ⟨w.heap.size, 1, none⟩) (Nat.le_refl _) _

set_option maxHeartbeats 1000000 in
set_option maxRecDepth 100000 in
/-- zzBuild of no segment. -/
theorem bd_zero (a0 : Option Addr) (cap : Nat) (w : World) :
    Calls Try.prog 7 #[.slice a0 0 cap] w fun e w' => ∃ p a m c, e = .returned (.agg #[.pointer p, .slice a m c]) ∧ (p = none ∧ m = 0) ∧ Below w.heap.size w w' := by
  go_enter Try.func7, Try.ntmps7
  go_wp2
  (try simp only [Exit.inBlock, Exit.then])
  refine bodyPost_ret (v := .agg #[.pointer none, .slice none 0 0]) ?_ rfl ⟨none, none, 0, 0, rfl, ⟨rfl, rfl⟩, ?_⟩
  · simp [results, Try.results7, go_sem]
  · exact ((Below.refl _ _).alloc (Nat.le_refl _) _).alloc (by simp) _

/-- zzBuild. -/
theorem bd_any (ss : List Sg) (a0 : Option Addr) (n cap : Nat) (w : World) (h : In w a0 n ss) (hm : n ≤ 65536) (hs : ∀ s ∈ ss, Sml s) (hj : (joined ss).length ≤ 32768) :
    Calls Try.prog 7 #[.slice a0 n cap] w fun e w' => ∃ p a m c, e = .returned (.agg #[.pointer p, .slice a m c]) ∧ Ch w' (w.heap.size + 2) (rsOf ss) p a m ∧ Below w.heap.size w w' := by
  obtain ⟨h1, h2, h3⟩ := h
  by_cases h0 : n = 0
  · have hcs : ss = [] := List.eq_nil_of_length_eq_zero (by omega)
    subst hcs
    subst h0
    exact bd_zero a0 cap w
  · rcases h3 with h3 | ⟨b, off, rfl, h3⟩
    · exact absurd h3 h0
    · exact bd_some ss b off n cap w h1 (by omega) hm h3 hs hj

end Go.Proofs.Qxb6632608a
