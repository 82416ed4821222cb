/- An array of 32 bytes that came in, opened. -/
import Derived.Test.Qxb6634827aBase
import Derived.ProofKit
import Derived.OpenShut
import Derived.Deep.Slices
namespace Go.Proofs.Qxb6634827a
open Go.RowKit Go.ChangeShapes Go.WideShapes Go.Deep

theorem Try.cells22 : Try.prog.cellsOf 22 = 32 := by kernel_rfl
theorem Try.cells5 : Try.prog.cellsOf 5 = 1 := by kernel_rfl

section
variable {H : Type} {enc : TypeId × Value → H} {W : World}

/-- AN ARGUMENT. -/
theorem open_arr32 {r : Reach} {base : Nat} {v : Value} (hv : Value.okWide Try.prog W r base 22 v) {d : DataW H} {p : List MemPlace} (h : DataW.Trod enc Try.prog W 0 (fun _ => true) true 22 v d p) :
    ∃ f, v = .agg (arr f) ∧ By f := by
  simp only [Value.okWide, Try.underlying22] at hv
  obtain ⟨cs, rfl, hsz, _⟩ := hv
  rw [Try.cells22] at hsz
  obtain ⟨fuel, hf⟩ := h
  obtain ⟨xs, m, _, _, _, hxl, hx⟩ := DataW.trod_array Try.underlying22 hf
  have each : ∀ i, i < 32 → ∃ z : Nat, cs[i]? = some (.int .u8 (z : Nat)) ∧ z < 256 := by
    intro i hi
    have h1 := hx i hi
    rw [Try.cells5, Nat.mul_one, List.getElem?_eq_getElem (by omega)] at h1
    have hl : i < cs.toList.length := by simp; omega
    have e : (((Value.agg cs).cells.toList.drop i).take 1) = [cs.toList[i]] := by
      show ((cs.toList.drop i).take 1) = _
      rw [List.drop_eq_getElem_cons hl]
      rfl
    rw [e] at h1
    obtain ⟨z, hz, _, hw⟩ := DataW.trod_int Try.underlying5 h1
    have hb := bounds_u8 hw
    simp at hz
    refine ⟨z.toNat, ?_, by omega⟩
    rw [Array.getElem?_eq_getElem (by omega), hz, Int.toNat_of_nonneg hb.1]
  obtain ⟨f, hf2⟩ := choose_lt each
  refine ⟨fun i => if i < 32 then f i else 0, ?_, fun i => ?_⟩
  · rw [arr_ext (fun i => if i < 32 then f i else 0) cs hsz (fun i hi => by rw [(hf2 i hi).1]; simp [hi])]
  · by_cases hi : i < 32
    · simpa [hi] using (hf2 i hi).2
    · simp [hi]

end
end Go.Proofs.Qxb6634827a
