/- zzBit: the walk. -/
import Derived.Test.Qxb6634827aBase
namespace Go.Proofs.Qxb6634827a
open Go.RowKit
attribute [local go_sem ↓] Go.wp_at_zero Go.wp_at_succ

theorem and8 (a : Nat) : bits .and .u8 (a : Int) 1 = ((a % 2 : Nat) : Int) := by
  have e : (BitVec.ofInt 8 (a : Int) &&& BitVec.ofInt 8 1).toNat = a % 2 := by
    rw [BitVec.toNat_and]
    simp
  show IntKind.u8.wrap ((BitVec.ofInt 8 (a : Int) &&& BitVec.ofInt 8 1).toNat : Int) = _
  rw [e]
  simp [IntKind.wrap, IntKind.bits, IntKind.signed]
  omega
theorem bit8 (y m : Nat) : (bits .and .u8 ((y : Int) / 2 ^ m) 1 == 1) = y.testBit m := by
  have e : (y : Int) / 2 ^ m = ((y / 2 ^ m : Nat) : Int) := by simp
  rw [e, and8 _, Nat.testBit_eq_decide_div_mod_eq]
  generalize y / 2 ^ m % 2 = k
  by_cases h : k = 1
  · simp [h]
  · have h2 : ¬ (k : Int) = 1 := by omega
    simp [h, h2]

set_option maxHeartbeats 2000000 in
set_option maxRecDepth 100000 in
/-- zzBit. -/
theorem zb_any (x : Nat → Nat) (p : Nat) (w : World) (hp : p ≤ 255) :
    Calls Try.prog 7 #[.agg (arr x), .int .i64 (p : Nat)] w fun e w' => e = .returned (.bool (bitOf x p)) ∧ Below w.heap.size w w' := by
  have c0 : (w.alloc (.cells (arr x) 22)).cell? ⟨w.heap.size, 31 - p / 8, none⟩ = some (.int .u8 (x (31 - p / 8) : Nat)) := by
    rw [cell_of_row _ _ _ _ 22 (0, 0) (heap_alloc_new w _), arr_get x _ (by omega)]
  have hb : Below w.heap.size w (w.alloc (.cells (arr x) 22)) := (Below.refl _ _).alloc (Nat.le_refl _) _
  have ha := arr_get x (31 - p / 8) (by omega)
  have i1 : (0 : Int) ≤ (p : Int) := by omega
  have i2 : (p : Int) ≤ 255 := by omega
  go_enter Try.func7, Try.ntmps7
  go_wp2
  go_ret
  refine ⟨?_, hb⟩
  show Ending.returned (Value.bool (bits BinOp.and IntKind.u8 ((x (31 - p / 8) : Int) / 2 ^ (p % 8)) 1 == 1)) = _
  rw [bit8]
  rfl

end Go.Proofs.Qxb6634827a
