/- FnBucketIndexIsTopBitOfXorDistance: the walk. -/
import Derived.Test.Qxb6634827aXor
import Derived.Test.Qxb6634827aBit
import Derived.Deep.MidRow
namespace Go.Proofs.Qxb6634827a
open Go.RowKit
attribute [local go_sem ↓] Go.wp_at_zero Go.wp_at_succ

def arrL (f : Nat → Nat) : List Value := (List.range 32).map fun i => Value.int .u8 (f i : Nat)
theorem arrL_size (f : Nat → Nat) : (Try.prog.info? 22).map (·.size) = some (arrL f).length := by
  rw [info22]
  simp [arrL]
theorem Row.range {w : World} {b : Nat} {f : Nat → Nat} (h : Row w b f) : w.rangeAt b 0 (arrL f) := by
  intro j v hv
  have hj : j < 32 := by
    have := (List.getElem?_eq_some_iff.1 hv).1
    simpa [arrL] using this
  rw [Nat.zero_add, h.cell j hj, ← hv]
  simp [arrL, hj]
theorem bit_congr {d d' : Nat → Nat} (h : ∀ i, d i = d' i) (p : Nat) : bitOf d p = bitOf d' p := by
  unfold bitOf
  rw [h]
theorem By.xor {f g : Nat → Nat} (hf : By f) (hg : By g) : By (fun i => f i ^^^ g i) := fun i => xor_lt _ _ (hf i) (hg i)
theorem xor_swap (x y : Nat) : x ^^^ y = y ^^^ x := Nat.xor_comm x y
theorem xor_both (x y z : Nat) : (x ^^^ z) ^^^ (y ^^^ z) = x ^^^ y := by
  rw [Nat.xor_comm y z, ← Nat.xor_assoc, Nat.xor_assoc x z z, Nat.xor_self, Nat.xor_zero]

set_option linter.unusedSimpArgs false in
set_option maxHeartbeats 2000000 in
set_option maxRecDepth 100000 in
/-- FnBucketIndexIsTopBitOfXorDistance. -/
theorem tp_any (f g c : Nat → Nat) (w : World) (hf : By f) (hg : By g) (hc : By c) :
    Calls Try.prog 3 #[.agg (arr f), .agg (arr g), .agg (arr c)] w fun e w' => e = .returned (.bool true) ∧ Below w.heap.size w w' := by
  have hb3 : Below w.heap.size w (((w.alloc (.cells (arr f) 22)).alloc (.cells (arr g) 22)).alloc (.cells (arr c) 22)) := (((Below.refl _ _).alloc (Nat.le_refl _) _).alloc (by simp) _).alloc (by simp; omega) _
  have hF3 : Row (((w.alloc (.cells (arr f) 22)).alloc (.cells (arr g) 22)).alloc (.cells (arr c) 22)) w.heap.size f := by
    show _ = _
    rw [Below.heap_alloc _ _ _ (by simp; omega), Below.heap_alloc _ _ _ (by simp)]
    exact heap_alloc_new w _
  have hG3 : Row (((w.alloc (.cells (arr f) 22)).alloc (.cells (arr g) 22)).alloc (.cells (arr c) 22)) (w.heap.size + 1) g := by
    show _ = _
    rw [Below.heap_alloc _ _ _ (by simp)]
    exact heap_new _ _ _ (by simp)
  have hC3 : Row (((w.alloc (.cells (arr f) 22)).alloc (.cells (arr g) 22)).alloc (.cells (arr c) 22)) (w.heap.size + 1 + 1) c := heap_new _ _ _ (by simp)
  have HF3 := hid hF3
  have HG3 := hid hG3
  go_enter Try.func3, Try.ntmps3
  go_wp2_with (first
    | (refine wpList_load_row rfl 22 (.tmp 3) rfl w.heap.size rfl 22 (arr f) (0, 0) _ HF3.out Try.underlying22 rfl (size22 f) ?_)
    | (refine wpList_load_row rfl 22 (.tmp 4) rfl (w.heap.size + 1) rfl 22 (arr g) (0, 0) _ HG3.out Try.underlying22 rfl (size22 g) ?_))
  clear HF3 HG3
  generalize (((w.alloc (.cells (arr f) 22)).alloc (.cells (arr g) 22)).alloc (.cells (arr c) 22)) = w3 at hb3 hF3 hG3 hC3 ⊢
  refine (bi_any f g w3 hf hg).mono ?_
  rintro e w4 ⟨r, rfl, ht, hb4⟩
  have hF4 := hF3.below hb4
  have hG4 := hG3.below hb4
  have hC4 := hC3.below hb4
  have hbw4 : Below w.heap.size w w4 := hb3.trans (hb4.mono hb3.size)
  clear hF3 hG3 hC3 hb3 hb4
  have HF4 := hid hF4
  have HG4 := hid hG4
  go_wp2_with (first
    | (refine wpList_load_row rfl 22 (.tmp 3) rfl w.heap.size rfl 22 (arr f) (0, 0) _ HF4.out Try.underlying22 rfl (size22 f) ?_)
    | (refine wpList_load_row rfl 22 (.tmp 4) rfl (w.heap.size + 1) rfl 22 (arr g) (0, 0) _ HG4.out Try.underlying22 rfl (size22 g) ?_))
  refine (xr_any f g w4 hf hg).mono ?_
  rintro e w5 ⟨rfl, hb5⟩
  have hbA : Below w5.heap.size w5 (w5.alloc (.cells (arr fun i => f i ^^^ g i) 22)) := (Below.refl _ _).alloc (Nat.le_refl _) _
  have hX6 : Row (w5.alloc (.cells (arr fun i => f i ^^^ g i) 22)) w5.heap.size (fun i => f i ^^^ g i) := heap_alloc_new w5 _
  have hF6 := (hF4.below hb5).below hbA
  have hG6 := (hG4.below hb5).below hbA
  have hC6 := (hC4.below hb5).below hbA
  have hbw5 : Below w.heap.size w w5 := hbw4.trans (hb5.mono hbw4.size)
  have hbw6 := hbw5.trans (hbA.mono hbw5.size)
  clear hF4 hG4 hC4 HF4 HG4 hb5 hbw4 hbA
  have HF6 := hid hF6
  have HG6 := hid hG6
  go_wp2_with (first
    | (refine wpList_store_new rfl 22 (.tmp 8) (.tmp 15) rfl _ (arr fun i => f i ^^^ g i) (by simp [Act.eval]) rfl (size22 _) (by rw [arr_size]; rfl) (arr_one _) ?_)
    | (refine wpList_load_row rfl 22 (.tmp 3) rfl w.heap.size rfl 22 (arr f) (0, 0) _ HF6.out Try.underlying22 rfl (size22 f) ?_)
    | (refine wpList_load_row rfl 22 (.tmp 4) rfl (w.heap.size + 1) rfl 22 (arr g) (0, 0) _ HG6.out Try.underlying22 rfl (size22 g) ?_))
  clear HF6 HG6
  generalize w5.heap.size = X at hX6 ⊢
  generalize (w5.alloc (.cells (arr fun i => f i ^^^ g i) 22)) = w6 at hX6 hF6 hG6 hC6 hbw6 ⊢
  refine (bi_any g f w6 hg hf).mono ?_
  rintro e w7 ⟨r2, rfl, ht2, hb7⟩
  have er : r2 = r := ht2.uniq ht (fun p _ => bit_congr (fun i => xor_swap _ _) p)
  subst er
  have hF7 := hF6.below hb7
  have hG7 := hG6.below hb7
  have hC7 := hC6.below hb7
  have hX7 := hX6.below hb7
  have hbw7 : Below w.heap.size w w7 := hbw6.trans (hb7.mono hbw6.size)
  clear hF6 hG6 hC6 hX6 hb7 hbw6 ht2
  have hkeep : ∀ W', Below w7.heap.size w7 W' → W'.rangeAt w.heap.size 0 (arrL f) ∧ W'.rangeAt (w.heap.size + 1) 0 (arrL g) ∧ W'.rangeAt (w.heap.size + 1 + 1) 0 (arrL c) := fun W' hb => ⟨(hF7.below hb).range, (hG7.below hb).range, (hC7.below hb).range⟩
  have HK := hid hkeep
  have hacc : Below w7.heap.size w7 w7.drew := (Below.refl _ _).drew
  have hu22 := Try.underlying22
  have hi1 := arrL_size f
  have hi2 := arrL_size g
  have hi3 := arrL_size c
  have s1 := hF7.range
  have s2 := hG7.range
  have s3 := hC7.range
  have hfc := hf.xor hc
  have hgc := hg.xor hc
  clear hkeep
  go_wp2
  refine wp_region_held_drew (S := fun w' => w'.rangeAt w.heap.size 0 (arrL f) ∧ w'.rangeAt (w.heap.size + 1) 0 (arrL g) ∧ w'.rangeAt (w.heap.size + 1 + 1) 0 (arrL c)) (by kernel_rfl) (HK.out _ hacc) (fun hHeld => ?_)
  refine wpAnyH_take (i := 1) (v := .agg (arrL f).toArray) rfl (by kernel_rfl) (by kernel_rfl) (by kernel_rfl) (fun _ _ _ h => h) (yieldsIf_load_mid (by rfl) 22 (.tmp 3) rfl w.heap.size 0 rfl (arrL f) _ (fun w' h => h.1) Try.underlying22 rfl (arrL_size f)) (by assumption) ?_
  simp only [Act.put, List.setIfInBounds_toArray, List.set_cons_zero, List.set_cons_succ]
  refine wpAnyH_take (i := 2) (v := .agg (arrL c).toArray) rfl (by kernel_rfl) (by kernel_rfl) (by kernel_rfl) (fun _ _ _ h => h) (yieldsIf_load_mid (by rfl) 22 (.tmp 5) rfl (w.heap.size + 1 + 1) 0 rfl (arrL c) _ (fun w' h => h.2.2) Try.underlying22 rfl (arrL_size c)) (by assumption) ?_
  simp only [Act.put, List.setIfInBounds_toArray, List.set_cons_zero, List.set_cons_succ]
  refine wpAnyH_take (i := 4) (v := .agg (arrL g).toArray) rfl (by kernel_rfl) (by kernel_rfl) (by kernel_rfl) (fun _ _ _ h => h) (yieldsIf_load_mid (by rfl) 22 (.tmp 4) rfl (w.heap.size + 1) 0 rfl (arrL g) _ (fun w' h => h.2.1) Try.underlying22 rfl (arrL_size g)) (by assumption) ?_
  simp only [Act.put, List.setIfInBounds_toArray, List.set_cons_zero, List.set_cons_succ]
  refine wpAnyH_take (i := 5) (v := .agg (arrL c).toArray) rfl (by kernel_rfl) (by kernel_rfl) (by kernel_rfl) (fun _ _ _ h => h) (yieldsIf_load_mid (by rfl) 22 (.tmp 5) rfl (w.heap.size + 1 + 1) 0 rfl (arrL c) _ (fun w' h => h.2.2) Try.underlying22 rfl (arrL_size c)) (by assumption) ?_
  simp only [Act.put, List.setIfInBounds_toArray, List.set_cons_zero, List.set_cons_succ]
  refine wpAnyH_take (i := 0) (v := .int .i64 r2) rfl (by kernel_rfl) (by kernel_rfl) (by kernel_rfl) (fun _ _ _ h => h) (Or.inl ⟨by rfl, fun w' _ => by rfl⟩) (by assumption) ?_
  simp only [Act.put, List.setIfInBounds_toArray, List.set_cons_zero, List.set_cons_succ]
  refine wpAnyH_ready (rs := [3]) (by kernel_rfl) (by simp) ?_
  refine AllReadyH.cons rfl (fun K hK => ?_) AllReadyH.nil
  go_simp
  refine (xr_any f c _ hf hc).mono ?_
  rintro e w8 ⟨rfl, hb8⟩
  have hacc8 := hacc.trans (hb8.mono hacc.size)
  show K _ _
  refine hK.out _ _ (HK.out _ hacc8) (fun hHeld => ?_)
  clear hK K hb8
  refine wpAnyH_ready (rs := [6]) (by kernel_rfl) (by simp) ?_
  refine AllReadyH.cons rfl (fun K hK => ?_) AllReadyH.nil
  go_simp
  refine (xr_any g c _ hg hc).mono ?_
  rintro e w9 ⟨rfl, hb9⟩
  have hacc9 := hacc8.trans (hb9.mono hacc8.size)
  show K _ _
  refine hK.out _ _ (HK.out _ hacc9) (fun hHeld => ?_)
  clear hK K hb9 hacc8
  refine wpAnyH_ready (rs := [7]) (by kernel_rfl) (by simp) ?_
  refine AllReadyH.cons rfl (fun K hK => ?_) AllReadyH.nil
  go_simp
  refine (bi_any (fun i => f i ^^^ c i) (fun i => g i ^^^ c i) _ hfc hgc).mono ?_
  rintro e wB ⟨r3, rfl, ht3, hbB⟩
  have haccB := hacc9.trans (hbB.mono hacc9.size)
  have er3 : r3 = r2 := ht3.uniq ht (fun p _ => bit_congr (fun i => xor_both _ _ _) p)
  subst er3
  show K _ _
  refine hK.out _ _ (HK.out _ haccB) (fun hHeld => ?_)
  clear hK K hbB hacc9 ht3
  refine wpAnyH_ready (rs := [8]) (by kernel_rfl) (by simp) ?_
  refine AllReadyH.cons rfl (fun K hK => ?_) AllReadyH.nil
  go_simp
  refine hK.out _ _ (HK.out _ haccB) (fun hHeld => ?_)
  clear hK K
  refine wpAnyH_done (by kernel_rfl) ?_ _
  have hXB := hX7.below haccB
  have hbwB : Below w.heap.size w wB := hbw7.trans (haccB.mono hbw7.size)
  have l1 := ht.lo
  have l2 := ht.hi
  clear hF7 hG7 hC7 hX7 hbw7 HK hacc haccB hu22 hi1 hi2 hi3 s1 s2 s3 hfc hgc hHeld hbw5
  have HXT : Hid (∃ d, TopB d r3 ∧ Row wB X d) := hid ⟨_, ht, hXB⟩
  obtain ⟨d, htd, hXd⟩ := HXT.out
  clear HXT hXB ht
  have n1 : ¬ r3 < -1 := by omega
  have n2 : ¬ 255 < r3 := by omega
  go_wp2
  go_loopw [9] (fun vp wr => ∃ k : Int, vp = .int .i64 k ∧ r3 ≤ k ∧ k ≤ 255 ∧ Row wr X d ∧ Below w.heap.size w wr) (fun vp _ => (intOf vp - r3).toNat)
  case atStart => exact ⟨255, rfl, l2, by omega, hXd, hbwB⟩
  case round =>
    obtain ⟨k, rfl, hk1, hk2, hX, hb⟩ := hrel
    have HX := hid hX
    by_cases hlt : r3 < k
    · obtain ⟨q, rfl⟩ : ∃ q : Nat, k = q := ⟨k.toNat, by omega⟩
      have hzb := zb_any d q wr (by omega)
      rw [htd.over q (by omega) hlt] at hzb
      have HZB := hid hzb
      clear hzb
      go_wp2_with (first
        | (refine wpList_load_row rfl 22 (.tmp 8) rfl X rfl 22 (arr d) (0, 0) _ HX.out Try.underlying22 rfl (size22 d) ?_)
        | (go_at_call 7; refine HZB.out.mono ?_; rintro e wz ⟨rfl, hbz⟩))
      go_roundw
      case rel => exact ⟨(q : Int) - 1, by go_num, by omega, by omega, hX.below hbz, hb.trans (hbz.mono hb.size)⟩
      case measure => simp [intOf]; omega
    · have ek : k = r3 := by omega
      subst ek
      by_cases hm : k = -1
      · subst hm
        go_wp2
        go_ret
        exact ⟨rfl, hb⟩
      · obtain ⟨q, rfl⟩ : ∃ q : Nat, k = q := ⟨k.toNat, by omega⟩
        have hzb := zb_any d q wr (by omega)
        have hq := htd.here (by omega)
        rw [Int.toNat_natCast] at hq
        rw [hq] at hzb
        have HZB := hid hzb
        clear hzb hq
        go_wp2_with (first
          | (refine wpList_load_row rfl 22 (.tmp 8) rfl X rfl 22 (arr d) (0, 0) _ HX.out Try.underlying22 rfl (size22 d) ?_)
          | (go_at_call 7; refine HZB.out.mono ?_; rintro e wz ⟨rfl, hbz⟩))
        go_ret
        exact ⟨rfl, hb.trans (hbz.mono hb.size)⟩

end Go.Proofs.Qxb6634827a
