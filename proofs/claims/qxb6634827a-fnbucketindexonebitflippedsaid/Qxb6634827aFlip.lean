/- FnBucketIndexOneBitFlipped: the walk. -/
import Derived.Test.Qxb6634827aRow
namespace Go.Proofs.Qxb6634827a
open Go.RowKit
attribute [local go_sem ↓] Go.wp_at_zero Go.wp_at_succ

/-- g with bit p flipped. -/
def bitTurn (g : Nat → Nat) (p : Nat) : Nat → Nat := fun i => if i = 31 - p / 8 then g i ^^^ 2 ^ (p % 8) else g i
theorem pow8 (p : Nat) : 2 ^ (p % 8) < 256 := by
  have h : p % 8 < 8 := by omega
  calc 2 ^ (p % 8) < 2 ^ 8 := Nat.pow_lt_pow_right (by omega) h
    _ = 256 := by decide
theorem By.bitTurn {g : Nat → Nat} (h : By g) (p : Nat) : By (bitTurn g p) := by
  intro i
  unfold Qxb6634827a.bitTurn
  split
  · exact xor_lt _ _ (h i) (pow8 p)
  · exact h i
theorem bit_flip (f g : Nat → Nat) (p q : Nat) (hp : p ≤ 255) (hq : q ≤ 255) : bitOf (fun i => f i ^^^ bitTurn g p i) q = (bitOf (fun i => f i ^^^ g i) q != decide (q = p)) := by
  unfold bitOf bitTurn
  simp only
  by_cases hk : 31 - q / 8 = 31 - p / 8
  · rw [if_pos hk]
    simp only [Nat.testBit_xor, Nat.testBit_two_pow]
    have e : (p % 8 = q % 8) = (q = p) := by
      apply propext
      constructor
      · intro h; omega
      · intro h; rw [h]
    simp only [e]
    cases (f (31 - q / 8)).testBit (q % 8) <;> cases (g (31 - q / 8)).testBit (q % 8) <;> cases decide (q = p) <;> rfl
  · rw [if_neg hk]
    have e : ¬ q = p := fun h => hk (by rw [h])
    simp [e]
theorem bit_self (g : Nat → Nat) (p q : Nat) (hp : p ≤ 255) (hq : q ≤ 255) : bitOf (fun i => g i ^^^ bitTurn g p i) q = decide (q = p) := by
  rw [bit_flip g g p q hp hq]
  have e : bitOf (fun i => g i ^^^ g i) q = false := by simp [bitOf]
  rw [e]
  cases decide (q = p) <;> rfl
theorem top_self {g : Nat → Nat} {p : Nat} {r : Int} (hp : p ≤ 255) (h : TopB (fun i => g i ^^^ bitTurn g p i) r) : r = p := by
  have h1 : (p : Int) ≤ r := by
    apply Int.not_lt.1
    intro hlt
    have := h.over p hp hlt
    rw [bit_self g p p hp hp] at this
    simp at this
  have h0 : 0 ≤ r := by omega
  have h2 := h.here h0
  have h3 := h.hi
  rw [bit_self g p _ hp (by omega)] at h2
  simp at h2
  omega
theorem top_flip {f g : Nat → Nat} {p : Nat} {r s : Int} (hp : p ≤ 255) (h : TopB (fun i => f i ^^^ g i) r) (h' : TopB (fun i => f i ^^^ bitTurn g p i) s) : (r < p → s = p) ∧ (p < r → s = r) ∧ (r = p → s < r) := by
  have hb := fun q hq => bit_flip f g p q hp hq
  have e1 := h.lo
  have e2 := h.hi
  have e3 := h'.lo
  have e4 := h'.hi
  have up : ∀ q : Nat, q ≤ 255 → r < q → p < q → bitOf (fun i => f i ^^^ bitTurn g p i) q = false := fun q hq h1 h2 => by
    rw [hb q hq, h.over q hq h1]
    have e : ¬ q = p := by omega
    simp [e]
  refine ⟨fun hlt => ?_, fun hlt => ?_, fun he => ?_⟩
  · have b1 : bitOf (fun i => f i ^^^ bitTurn g p i) p = true := by
      rw [hb p hp, h.over p hp hlt]
      simp
    have l1 : ¬ s < p := fun hs => by
      have := h'.over p hp hs
      rw [b1] at this
      cases this
    have l2 : ¬ p < s := fun hs => by
      have h5 := h'.here (by omega)
      rw [up s.toNat (by omega) (by omega) (by omega)] at h5
      cases h5
    omega
  · have b1 : bitOf (fun i => f i ^^^ bitTurn g p i) r.toNat = true := by
      rw [hb r.toNat (by omega), h.here (by omega)]
      have e : ¬ r.toNat = p := by omega
      simp [e]
    have l1 : ¬ s < r := fun hs => by
      have := h'.over r.toNat (by omega) (by omega)
      rw [b1] at this
      cases this
    have l2 : ¬ r < s := fun hs => by
      have h5 := h'.here (by omega)
      rw [up s.toNat (by omega) (by omega) (by omega)] at h5
      cases h5
    omega
  · have b1 : bitOf (fun i => f i ^^^ bitTurn g p i) p = false := by
      have h5 := h.here (by omega)
      rw [he] at h5
      simp only [Int.toNat_natCast] at h5
      rw [hb p hp, h5]
      simp
    apply Int.not_le.1
    intro hs
    have h5 := h'.here (by omega)
    by_cases e : s = r
    · rw [e, he] at h5
      simp only [Int.toNat_natCast] at h5
      rw [b1] at h5
      cases h5
    · rw [up s.toNat (by omega) (by omega) (by omega)] at h5
      cases h5
theorem flip_val (g : Nat → Nat) (p : Nat) (hg : By g) : bits .xor .u8 (g (31 - p / 8) : Int) ((2 : Int) ^ (p % 8) % 256) = ((bitTurn g p (31 - p / 8) : Nat) : Int) := by
  have e : (2 : Int) ^ (p % 8) % 256 = ((2 ^ (p % 8) : Nat) : Int) := by
    have h := pow8 p
    have e1 : ((2 ^ (p % 8) : Nat) : Int) = (2 : Int) ^ (p % 8) := by simp
    rw [← e1]
    generalize 2 ^ (p % 8) = m at h ⊢
    omega
  rw [e, xor8 _ _ (hg _) (pow8 p)]
  simp [bitTurn]
theorem row_flip {w : World} {b : Nat} {g : Nat → Nat} {p : Nat} (h : Row w b g) : Row (w.setCell ⟨b, 31 - p / 8, none⟩ (.int .u8 (bitTurn g p (31 - p / 8) : Nat))) b (bitTurn g p) := by
  have h' : w.heap[b]? = some (.cells (arr g) 22 (0, 0)) := h
  have e : (arr g).setIfInBounds (31 - p / 8) (.int .u8 (bitTurn g p (31 - p / 8) : Nat)) = arr (bitTurn g p) := by
    apply arr_ext
    · rw [Array.size_setIfInBounds, arr_size]
    · intro i hi
      rw [Array.getElem?_setIfInBounds]
      by_cases hk : 31 - p / 8 = i
      · rw [if_pos hk, if_pos (by rw [arr_size]; omega), hk]
      · rw [if_neg hk, arr_get g i hi]
        have hk2 : ¬ i = 31 - p / 8 := fun h => hk h.symm
        simp [bitTurn, hk2]
  rw [setCell_eq_setRow w b (31 - p / 8) (arr g) 22 (0, 0) _ h', e]
  exact setRow_heap w b _ _ 22 _ h'
set_option maxHeartbeats 2000000 in
set_option maxRecDepth 100000 in
theorem fl_in (f g : Nat → Nat) (p : Nat) (w : World) (hf : By f) (hg : By g) (hp : p ≤ 255) :
    Calls Try.prog 4 #[.agg (arr f), .agg (arr g), .int .i64 (p : Nat)] w fun e w' => e = .returned (.bool true) ∧ Below w.heap.size w w' := by
  have hr1 : ((w.alloc (.cells (arr f) 22)).alloc (.cells (arr g) 22)).heap[w.heap.size + 1]? = some (.cells (arr g) 22 (0, 0)) := heap_alloc2_new w _ _
  have HR1 := hid hr1
  have hb3 : Below w.heap.size w (((w.alloc (.cells (arr f) 22)).alloc (.cells (arr g) 22)).alloc (.cells (arr g) 22)) := (((Below.refl _ _).alloc (Nat.le_refl _) _).alloc (by simp) _).alloc (by simp; omega) _
  have hF3 : Row (((w.alloc (.cells (arr f) 22)).alloc (.cells (arr g) 22)).alloc (.cells (arr g) 22)) w.heap.size f := by
    show _ = _
    rw [Below.heap_alloc _ _ _ (by simp; omega), Below.heap_alloc _ _ _ (by simp)]
    exact heap_alloc_new w _
  have hG3 : Row (((w.alloc (.cells (arr f) 22)).alloc (.cells (arr g) 22)).alloc (.cells (arr g) 22)) (w.heap.size + 1) g := by
    show _ = _
    rw [Below.heap_alloc _ _ _ (by simp)]
    exact hr1
  have hH3 : Row (((w.alloc (.cells (arr f) 22)).alloc (.cells (arr g) 22)).alloc (.cells (arr g) 22)) (w.heap.size + 1 + 1) g := by
    have := heap_alloc_new ((w.alloc (.cells (arr f) 22)).alloc (.cells (arr g) 22)) (.cells (arr g) 22)
    simpa [Row] using this
  clear hr1
  have hv := flip_val g p hg
  have i1 : (0 : Int) ≤ (p : Int) := by omega
  have i2 : (p : Int) ≤ 255 := by omega
  go_enter Try.func4, Try.ntmps4
  go_wp2_with (first
    | (refine wpList_load_row rfl 22 (.tmp 4) rfl (w.heap.size + 1) rfl 22 (arr g) (0, 0) _ HR1.out Try.underlying22 rfl (size22 g) ?_)
    | (refine wpList_store_new rfl 22 (.tmp 7) (.tmp 16) rfl _ (arr g) (by simp [Act.eval]) rfl (size22 g) (by rw [arr_size]; rfl) (arr_one g) ?_
       generalize (((w.alloc (.cells (arr f) 22)).alloc (.cells (arr g) 22)).alloc (.cells (arr g) 22)) = w3 at hb3 hF3 hG3 hH3 ⊢
       have c0 := hH3.cell (31 - p / 8) (by omega)
       have f0 := hH3.froz (31 - p / 8)
       have HH4 := hid (row_flip (p := p) hH3)
       have HF4 := hid (row_other hF3 (31 - p / 8) (.int .u8 (bitTurn g p (31 - p / 8) : Nat)) (show w.heap.size ≠ w.heap.size + 1 + 1 by omega))
       have HG4 := hid (row_other hG3 (31 - p / 8) (.int .u8 (bitTurn g p (31 - p / 8) : Nat)) (show w.heap.size + 1 ≠ w.heap.size + 1 + 1 by omega))
       have HB4 := hid (hb3.setCell (p := ⟨w.heap.size + 1 + 1, 31 - p / 8, none⟩) (by simp; omega) (.int .u8 (bitTurn g p (31 - p / 8) : Nat)))
       clear hF3 hG3 hH3 HR1 hb3)
    | (refine wpList_load_row rfl 22 (.tmp 4) rfl (w.heap.size + 1) rfl 22 (arr g) (0, 0) _ HG4.out Try.underlying22 rfl (size22 g) ?_)
    | (refine wpList_load_row rfl 22 (.tmp 7) rfl (w.heap.size + 1 + 1) rfl 22 (arr (bitTurn g p)) (0, 0) _ HH4.out Try.underlying22 rfl (size22 _) ?_))
  have hf4 := HF4.out
  have hg4 := HG4.out
  have hh4 := HH4.out
  have hb4 := HB4.out
  generalize (w3.setCell ⟨w.heap.size + 1 + 1, 31 - p / 8, none⟩ (.int .u8 (bitTurn g p (31 - p / 8) : Nat))) = w4 at hf4 hg4 hh4 hb4 ⊢
  clear HF4 HG4 HH4 HB4 c0 f0 hv
  refine (bi_any g (bitTurn g p) w4 hg (hg.bitTurn p)).mono ?_
  rintro e w5 ⟨r0, rfl, ht0, hb5⟩
  have e0 := top_self hp ht0
  subst e0
  have hf5 := hf4.below hb5
  have hg5 := hg4.below hb5
  have hh5 := hh4.below hb5
  have hb5w : Below w.heap.size w w5 := hb4.trans (hb5.mono hb4.size)
  have HF5 := hid hf5
  have HG5 := hid hg5
  clear hf4 hg4 hh4 hb4 hb5 ht0
  go_wp2_with (first
    | (refine wpList_load_row rfl 22 (.tmp 3) rfl w.heap.size rfl 22 (arr f) (0, 0) _ HF5.out Try.underlying22 rfl (size22 f) ?_)
    | (refine wpList_load_row rfl 22 (.tmp 4) rfl (w.heap.size + 1) rfl 22 (arr g) (0, 0) _ HG5.out Try.underlying22 rfl (size22 g) ?_))
  refine (bi_any f g w5 hf hg).mono ?_
  rintro e w6 ⟨r1, rfl, ht1, hb6⟩
  have HF6 := hid (hf5.below hb6)
  have HH6 := hid (hh5.below hb6)
  have hb6w : Below w.heap.size w w6 := hb5w.trans (hb6.mono hb5w.size)
  have l1 := ht1.lo
  have l2 := ht1.hi
  clear hf5 hg5 hh5 HF5 HG5 hb6 hb5w
  go_wp2_with (first
    | (refine wpList_load_row rfl 22 (.tmp 3) rfl w.heap.size rfl 22 (arr f) (0, 0) _ HF6.out Try.underlying22 rfl (size22 f) ?_)
    | (refine wpList_load_row rfl 22 (.tmp 7) rfl (w.heap.size + 1 + 1) rfl 22 (arr (bitTurn g p)) (0, 0) _ HH6.out Try.underlying22 rfl (size22 _) ?_))
  refine (bi_any f (bitTurn g p) w6 hf (hg.bitTurn p)).mono ?_
  rintro e w7 ⟨r2, rfl, ht2, hb7⟩
  obtain ⟨k1, k2, k3⟩ := top_flip hp ht1 ht2
  have hb7w : Below w.heap.size w w7 := hb6w.trans (hb7.mono hb6w.size)
  clear ht1 ht2 HF6 HH6 hb7
  have tri : r1 < (p : Int) ∨ (p : Int) < r1 ∨ r1 = (p : Int) := by omega
  rcases tri with h | h | h
  · have e2 := k1 h
    subst e2
    clear k1 k2 k3
    go_wp2
    go_ret
    exact ⟨by simp, hb7w⟩
  · have e2 := k2 h
    subst e2
    clear k1 k2 k3
    have h' : ¬ r2 < (p : Int) := by omega
    go_wp2
    go_ret
    exact ⟨by simp, hb7w⟩
  · have e2 := k3 h
    subst h
    clear k1 k2 k3
    go_wp2
    go_ret
    exact ⟨by simp, hb7w⟩

set_option maxHeartbeats 1000000 in
set_option maxRecDepth 100000 in
theorem fl_out (f g : Nat → Nat) (p : Int) (w : World) (hp : p < 0 ∨ 255 < p) :
    Calls Try.prog 4 #[.agg (arr f), .agg (arr g), .int .i64 p] w fun e w' => e = .returned (.bool true) ∧ Below w.heap.size w w' := by
  rcases hp with h | h
  · go_enter Try.func4, Try.ntmps4
    go_wp2
    go_ret
    exact ⟨rfl, ((Below.refl _ _).alloc (Nat.le_refl _) _).alloc (by simp) _⟩
  · have h' : ¬ p < 0 := by omega
    go_enter Try.func4, Try.ntmps4
    go_wp2
    go_ret
    exact ⟨rfl, ((Below.refl _ _).alloc (Nat.le_refl _) _).alloc (by simp) _⟩

/-- FnBucketIndexOneBitFlipped. -/
theorem fl_any (f g : Nat → Nat) (p : Int) (w : World) (hf : By f) (hg : By g) :
    Calls Try.prog 4 #[.agg (arr f), .agg (arr g), .int .i64 p] w fun e w' => e = .returned (.bool true) ∧ Below w.heap.size w w' := by
  by_cases h : p < 0 ∨ 255 < p
  · exact fl_out f g p w h
  · obtain ⟨q, rfl⟩ : ∃ q : Nat, p = q := ⟨p.toNat, by omega⟩
    exact fl_in f g q w hf hg (by omega)

end Go.Proofs.Qxb6634827a
