/- math/bits.Len8, BucketIndex: the walks. -/
import Derived.Test.Qxb6634827aBase
namespace Go.Proofs.Qxb6634827a
open Go.RowKit
attribute [local go_sem ↓] Go.wp_at_zero Go.wp_at_succ

set_option maxRecDepth 100000 in
set_option maxHeartbeats 4000000 in
/-- math/bits.Len8. -/
theorem lb_any (d : Nat) (w : World) (h : d < 256) :
    Calls Try.prog 8 #[.int .u8 (d : Int)] w fun e w' => e = .returned (.int .i64 (Lib.bitLen d : Nat)) ∧ w = w' := by
  have e := Lib.len8_int (d : Int) (by omega) (by omega)
  rw [Int.toNat_natCast] at e
  have h0 : (0 : Int) ≤ (d : Int) := by omega
  have h1 : (d : Int) ≤ 255 := by omega
  have e2 : wrap64 (Lib.len8 (d : Int)) = (Lib.bitLen d : Int) := by
    unfold wrap64
    exact e
  have E2 := hid e2
  clear e e2
  generalize (d : Int) = z at E2 h0 h1 ⊢
  go_enter Try.func8, Try.ntmps8
  go_wp2
  go_ret
  refine ⟨?_, rfl⟩
  have e3 := E2.out
  generalize Lib.len8 z = q at e3 ⊢
  show Ending.returned (Value.int .i64 (wrap64 q)) = _
  rw [e3]

set_option maxHeartbeats 2000000 in
set_option maxRecDepth 100000 in
/-- BucketIndex. -/
theorem bi_any (f g : Nat → Nat) (w : World) (hf : By f) (hg : By g) :
    Calls Try.prog 5 #[.agg (arr f), .agg (arr g)] w fun e w' => ∃ r, e = .returned (.int .i64 r) ∧ TopB (fun i => f i ^^^ g i) r ∧ Below w.heap.size w w' := by
  have hbA : Below w.heap.size w ((w.alloc (.cells (arr f) 24)).alloc (.cells (arr g) 24)) := ((Below.refl _ _).alloc (Nat.le_refl _) _).alloc (by simp) _
  have hA : ∀ i, i < 32 → ((w.alloc (.cells (arr f) 24)).alloc (.cells (arr g) 24)).cell? ⟨w.heap.size, i, none⟩ = some (.int .u8 (f i : Nat)) := fun i hi => by
    rw [World.cell?_alloc_lt _ _ _ (by simp), cell_of_row _ _ _ _ 24 (0, 0) (heap_alloc_new w _), arr_get f i hi]
  have hB : ∀ i, i < 32 → ((w.alloc (.cells (arr f) 24)).alloc (.cells (arr g) 24)).cell? ⟨w.heap.size + 1, i, none⟩ = some (.int .u8 (g i : Nat)) := fun i hi => by
    rw [cell_of_row _ _ _ _ 24 (0, 0) (heap_alloc2_new w _ _), arr_get g i hi]
  go_enter Try.func5, Try.ntmps5
  go_wp2
  generalize ((w.alloc (.cells (arr f) 24)).alloc (.cells (arr g) 24)) = w2 at hbA hA hB ⊢
  go_loopw [7] (fun vi wr => ∃ i : Nat, i ≤ 32 ∧ vi = .int .i64 i ∧ (∀ j, j < i → f j ^^^ g j = 0) ∧ Below w2.heap.size w2 wr) (fun vi _ => 32 - (intOf vi).toNat)
  case atStart => exact ⟨0, by omega, rfl, fun j hj => by omega, Below.refl _ _⟩
  case round =>
    obtain ⟨i, hi, rfl, hz, hbr⟩ := hrel
    by_cases hlt : i < 32
    · have c0 : wr.cell? ⟨w.heap.size, i, none⟩ = some (.int .u8 (f i : Nat)) := (hbr.cell (p := ⟨w.heap.size, i, none⟩) (World.block_lt_of_cell? w2 _ (hA i hlt))).trans (hA i hlt)
      have c1 : wr.cell? ⟨w.heap.size + 1, i, none⟩ = some (.int .u8 (g i : Nat)) := (hbr.cell (p := ⟨w.heap.size + 1, i, none⟩) (World.block_lt_of_cell? w2 _ (hB i hlt))).trans (hB i hlt)
      have hx := xor8 (f i) (g i) (hf i) (hg i)
      have hxl := xor_lt (f i) (g i) (hf i) (hg i)
      have HTS : Hid (f i ^^^ g i ≠ 0 → TopB (fun i => f i ^^^ g i) (8 * (31 - (i : Int)) + (Lib.bitLen (f i ^^^ g i) : Int) - 1)) := hid (fun h0 => top_some (d := fun i => f i ^^^ g i) hlt hz h0 hxl)
      have HZ : Hid (f i ^^^ g i = 0 → ∀ j, j < i + 1 → f j ^^^ g j = 0) := hid (fun h0 j hj => by
        by_cases e : j = i
        · subst e; exact h0
        · exact hz j (by omega))
      clear hz
      generalize f i ^^^ g i = d at hx hxl HTS HZ
      generalize f i = x at c0 hx
      generalize g i = y at c1 hx
      have i1 : (0 : Int) ≤ (i : Int) := by omega
      have i2 : (i : Int) < 32 := by omega
      have HLB := hid (fun W => lb_any d W hxl)
      by_cases hd : d = 0
      · have hd2 : ((d : Int) == 0) = true := by simp [hd]
        go_wp2
        go_region_held3 (fun w' => w'.cell? ⟨w.heap.size, i, none⟩ = some (.int .u8 (x : Nat)) ∧ w'.cell? ⟨w.heap.size + 1, i, none⟩ = some (.int .u8 (y : Nat))) (go_keep) (fail)
        go_wp2
        go_roundw
        case rel => exact ⟨i + 1, by omega, by go_num, HZ.out hd, hbr.drew⟩
        case measure => simp [intOf]; omega
      · have hd2 : ((d : Int) == 0) = false := by simp [hd]
        have hd3 : ¬ (d : Int) = 0 := by omega
        go_wp2
        go_region_held3 (fun w' => w'.cell? ⟨w.heap.size, i, none⟩ = some (.int .u8 (x : Nat)) ∧ w'.cell? ⟨w.heap.size + 1, i, none⟩ = some (.int .u8 (y : Nat))) (go_keep) (fail)
        have hl8 := Lib.bitLen_le8 ⟨d, hxl⟩
        simp only at hl8
        go_wp2_with (go_at_call 8; refine (HLB.out _).mono ?_; rintro e w' ⟨rfl, rfl⟩)
        go_ret
        exact ⟨_, rfl, HTS.out hd, hbA.trans (hbr.drew.mono hbA.size)⟩
    · have ei : i = 32 := by omega
      subst ei
      go_wp2
      go_ret
      exact ⟨-1, rfl, top_none hz, hbA.trans (hbr.mono hbA.size)⟩

end Go.Proofs.Qxb6634827a
