/- Arrays of 32 bytes as functions; the top bit: the plain law. -/
import Derived.Test.Qxb6634827aRows
import Derived.WalkKit
import Derived.WalkSpells
import Derived.Below
import Derived.BigQuiet
import Derived.Deep.QuietTactic
import Derived.Deep.RegionHeld3
import Derived.Deep.DrawnRows
import Derived.Laws.Rows
import Derived.Laws.Tables
import Derived.Lib.BitFns
namespace Go.Proofs.Qxb6634827a
open Go.RowKit

theorem hid {p : Prop} (h : p) : Hid p := h

/-- The cells of an array of 32 bytes. -/
def arr (f : Nat → Nat) : Array Value := ((List.range 32).map fun i => Value.int .u8 (f i : Nat)).toArray
theorem arr_size (f : Nat → Nat) : (arr f).size = 32 := by simp [arr]
theorem arr_get (f : Nat → Nat) (i : Nat) (h : i < 32) : (arr f)[i]? = some (.int .u8 (f i : Nat)) := by
  simp [arr, h]
theorem arr_ext (f : Nat → Nat) (cs : Array Value) (hs : cs.size = 32) (h : ∀ i, i < 32 → cs[i]? = some (.int .u8 (f i : Nat))) : cs = arr f := by
  apply Array.ext_getElem?
  intro i
  by_cases hi : i < 32
  · rw [h i hi, arr_get f i hi]
  · rw [Array.getElem?_eq_none (by omega), Array.getElem?_eq_none (by rw [arr_size]; omega)]
theorem arr_one (f : Nat → Nat) : (arr f).all (·.oneCell') = true := by
  rw [Array.all_eq_true_iff_forall_mem]
  intro v hv
  simp [arr] at hv
  obtain ⟨i, _, rfl⟩ := hv
  rfl
/-- Each is a byte. -/
def By (f : Nat → Nat) : Prop := ∀ i, f i < 256

/-- Bit p of the number that 32 bytes write, the highest byte first. -/
def bitOf (d : Nat → Nat) (p : Nat) : Bool := (d (31 - p / 8)).testBit (p % 8)
/-- r is the place of the highest bit, or -1. -/
structure TopB (d : Nat → Nat) (r : Int) : Prop where
  lo : -1 ≤ r
  hi : r ≤ 255
  over : ∀ p : Nat, p ≤ 255 → r < p → bitOf d p = false
  here : 0 ≤ r → bitOf d r.toNat = true
theorem TopB.le {d d' : Nat → Nat} {r r' : Int} (h : TopB d r) (h' : TopB d' r') (e : ∀ p : Nat, p ≤ 255 → bitOf d p = bitOf d' p) : r' ≤ r := by
  apply Int.not_lt.1
  intro hlt
  have h0 : 0 ≤ r' := by have := h.lo; omega
  have h1 := h'.here h0
  have h2 := h'.hi
  have h3 := h.over r'.toNat (by omega) (by omega)
  rw [e _ (by omega), h1] at h3
  cases h3
theorem TopB.uniq {d d' : Nat → Nat} {r r' : Int} (h : TopB d r) (h' : TopB d' r') (e : ∀ p : Nat, p ≤ 255 → bitOf d p = bitOf d' p) : r = r' :=
  Int.le_antisymm (h'.le h (fun p hp => (e p hp).symm)) (h.le h' e)

theorem len_facts : ∀ x : Fin 256, x.val ≠ 0 → 1 ≤ Lib.bitLen x.val ∧ Lib.bitLen x.val ≤ 8 ∧ x.val.testBit (Lib.bitLen x.val - 1) = true ∧ ∀ k : Fin 8, Lib.bitLen x.val ≤ k.val → x.val.testBit k.val = false := by decide +kernel

theorem top_none {d : Nat → Nat} (h : ∀ i, i < 32 → d i = 0) : TopB d (-1) := by
  refine ⟨by omega, by omega, fun p hp _ => ?_, fun h0 => by omega⟩
  unfold bitOf
  rw [h _ (by omega)]
  simp
theorem top_some {d : Nat → Nat} {i : Nat} (hi : i < 32) (h : ∀ j, j < i → d j = 0) (h0 : d i ≠ 0) (hb : d i < 256) : TopB d (8 * (31 - (i : Int)) + (Lib.bitLen (d i) : Int) - 1) := by
  obtain ⟨k1, k2, k3, k4⟩ := len_facts ⟨d i, hb⟩ h0
  simp only at k1 k2 k3 k4
  refine ⟨by omega, by omega, fun p hp hlt => ?_, fun hr => ?_⟩
  · unfold bitOf
    by_cases e : 31 - p / 8 = i
    · rw [e]
      exact k4 ⟨p % 8, by omega⟩ (by show _ ≤ p % 8; omega)
    · rw [h _ (by omega)]
      simp
  · unfold bitOf
    have e : (8 * (31 - (i : Int)) + (Lib.bitLen (d i) : Int) - 1).toNat = 8 * (31 - i) + (Lib.bitLen (d i) - 1) := by omega
    rw [e]
    have e1 : 31 - (8 * (31 - i) + (Lib.bitLen (d i) - 1)) / 8 = i := by omega
    have e2 : (8 * (31 - i) + (Lib.bitLen (d i) - 1)) % 8 = Lib.bitLen (d i) - 1 := by omega
    rw [e1, e2]
    exact k3

/-- xor of two bytes. -/
theorem xor8 (x y : Nat) (hx : x < 256) (hy : y < 256) : bits .xor .u8 (x : Int) (y : Int) = ((x ^^^ y : Nat) : Int) := by
  have h : x ^^^ y < 256 := Nat.xor_lt_two_pow (n := 8) hx hy
  have e : (BitVec.ofInt 8 (x : Int) ^^^ BitVec.ofInt 8 (y : Int)).toNat = x ^^^ y := by
    rw [BitVec.toNat_xor]
    simp
    rw [Nat.mod_eq_of_lt (by omega), Nat.mod_eq_of_lt (by omega)]
  show IntKind.u8.wrap ((BitVec.ofInt 8 (x : Int) ^^^ BitVec.ofInt 8 (y : Int)).toNat : Int) = _
  rw [e]
  simp [IntKind.wrap, IntKind.bits, IntKind.signed]
  omega
theorem xor_lt (x y : Nat) (hx : x < 256) (hy : y < 256) : x ^^^ y < 256 := Nat.xor_lt_two_pow (n := 8) hx hy

end Go.Proofs.Qxb6634827a
