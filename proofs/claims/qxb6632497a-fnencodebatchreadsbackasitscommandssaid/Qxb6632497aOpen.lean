/- A slice of commands that came in, opened. -/
import Derived.Test.Qxb6632497aIn
import Derived.ProofKit
import Derived.OpenShut
import Derived.Deep.Slices
namespace Go.Proofs.Qxb6632497a
open Go.RowKit Go.ChangeShapes Go.WideShapes Go.Deep

theorem u8_of {z : Int} (h : (Lit.int .u8 z).wf = true) : (z.toNat.toUInt8.toNat : Int) = z := by
  have hb := bounds_u8 h
  have := Lib.toUInt8_toNat (a := z.toNat) (by omega)
  omega

section
variable {H : Type} {enc : TypeId × Value → H} {W : World}

/-- A byte slice in a cell. -/
theorem open_bytes {fuel : Nat} {v : Value} {x : DataW H × List MemPlace} (h : DataW.trod enc Try.prog W 0 (fun _ => true) true fuel 24 [v] = some x) :
    ∃ a n c bs, v = .slice a n c ∧ Src8 W a n bs ∧ (0 < n → ∀ g, blk a = some g → g < W.heap.size) ∧ n ≤ maxLen := by
  rcases open_ints Try.underlying24 Try.underlying5 (by kernel_rfl) h with ⟨hcs, _⟩ | ⟨x, l, c, zs, hcs, _, hl, hm, hz, _, hcell, hwz⟩
  · simp at hcs
    subst hcs
    exact ⟨none, 0, 0, [], rfl, ⟨rfl, Or.inl rfl⟩, fun h => by omega, Nat.zero_le _⟩
  · simp at hcs hz
    subst hcs
    refine ⟨some x, l, c, (zs.take l).map fun z => z.toNat.toUInt8, rfl, ⟨by simp; omega, ?_⟩, fun h0 g hg => ?_, Nat.le_trans hl hm⟩
    · by_cases h0 : l = 0
      · exact Or.inl h0
      · obtain ⟨b, off, rfl, hc⟩ := ints_at hcell (by omega)
        refine Or.inr ⟨b, off, rfl, fun j u hu => ?_⟩
        have hj : j < l := by
          have := (List.getElem?_eq_some_iff.1 hu).1
          simp [Lib.byteCells] at this
          omega
        have hjz : j < zs.length := by omega
        rw [hc j hjz, ← hu]
        simp only [Lib.byteCells, List.getElem?_map, List.getElem?_take, if_pos hj, List.getElem?_eq_getElem hjz, Option.map_some, List.getD_eq_getElem?_getD, Option.getD_some]
        rw [u8_of (hwz _ (List.getElem_mem hjz))]
    · have := World.block_lt_of_cell? W _ (hcell 0 (by omega))
      simp [blk] at hg
      have e : (x.add 0).block = x.block := by simp [Addr.add]
      rw [e] at this
      omega

theorem Try.cells30 : Try.prog.cellsOf 30 = 4 := by kernel_rfl
theorem Try.cells5 : Try.prog.cellsOf 5 = 1 := by kernel_rfl
theorem Try.cells24 : Try.prog.cellsOf 24 = 1 := by kernel_rfl

/-- THE ARGUMENT. -/
theorem open_in {fuel : Nat} {a : Option Addr} {n cap : Nat} {x : DataW H × List MemPlace} (h : DataW.trod enc Try.prog W 0 (fun _ => true) true fuel 22 [.slice a n cap] = some x) :
    ∃ cs, In W a n cs := by
  rcases open_slice Try.underlying22 h with ⟨hcs, _⟩ | ⟨ad, len, cp, m, k, D, Pl, hcs, _, hl, hm, hmm, _, hx⟩
  · simp at hcs
    obtain ⟨rfl, rfl, rfl⟩ := hcs
    exact ⟨[], rfl, Nat.zero_le _, Or.inl rfl⟩
  · simp at hcs hmm
    obtain ⟨rfl, rfl, rfl⟩ := hcs
    have each : ∀ i, i < n → ∃ c : Cm, (W.cell? (ad.add (i * 4)) = some (.int .u8 c.pc.op.toNat) ∧ W.cell? (ad.add (i * 4 + 1)) = some (.slice c.ka c.kn c.kc) ∧ W.cell? (ad.add (i * 4 + 2)) = some (.slice c.pa c.pn c.pcap) ∧ W.cell? (ad.add (i * 4 + 3)) = some (.slice c.va c.vn c.vc)) ∧ CmIn W c := by
      intro i hi
      obtain ⟨cs', h1, h2⟩ := hx i (by omega)
      rw [Try.cells30] at h1
      obtain ⟨_, hlen, hcell⟩ := World.cells?_some h1
      obtain ⟨xs, q, hq, hxy, _, hxl, hf⟩ := DataW.trod_struct Try.underlying30 h2
      match xs, hxl, cs', hlen with
      | [y0, y1, y2, y3], _, [v0, v1, v2, v3], _ =>
        have g0 := hf 0 _ rfl
        have g1 := hf 1 _ rfl
        have g2 := hf 2 _ rfl
        have g3 := hf 3 _ rfl
        simp [Try.cells5, Try.cells24] at g0 g1 g2 g3
        have e0 := hcell 0 (by omega)
        have e1 := hcell 1 (by omega)
        have e2 := hcell 2 (by omega)
        have e3 := hcell 3 (by omega)
        rw [add_add] at e0 e1 e2 e3
        obtain ⟨z, hz, _, hwz⟩ := DataW.trod_int Try.underlying5 g0
        simp at hz
        subst hz
        obtain ⟨ka, kn, kc, ks, rfl, hk, hkb, hkl⟩ := open_bytes g1
        obtain ⟨pa, pn, pc, ps, rfl, hp, hpb, hpl⟩ := open_bytes g2
        obtain ⟨va, vn, vc, vs, rfl, hv, hvb, hvl⟩ := open_bytes g3
        refine ⟨⟨⟨z.toNat.toUInt8, ks, ps, vs⟩, ka, kn, kc, pa, pn, pc, va, vn, vc⟩, ⟨?_, e1, e2, e3⟩, ⟨hk, hp, hv, hkb, hpb, hvb, hkl, hpl, hvl⟩⟩
        show _ = some (Value.int .u8 (z.toNat.toUInt8.toNat : Int))
        rw [u8_of hwz]
        simpa using e0
    have _inh : Inhabited Cm := ⟨⟨⟨0, [], [], []⟩, none, 0, 0, none, 0, 0, none, 0, 0⟩⟩
    obtain ⟨f, hf⟩ := choose_lt each
    refine ⟨(List.range n).map f, by simp, Nat.le_trans hl hm, ?_⟩
    by_cases h0 : n = 0
    · exact Or.inl h0
    · have hsp : ad.spot = none := by
        have := (hf 0 (by omega)).1.1
        simpa [Addr.add] using World.cell?_spot this
      obtain ⟨b, off, sp⟩ := ad
      simp only at hsp
      subst hsp
      refine Or.inr ⟨b, off, rfl, fun i hi => ?_⟩
      have hi' : i < n := by simpa using hi
      obtain ⟨⟨c0, c1, c2, c3⟩, hin⟩ := hf i hi'
      rw [add_plain] at c0 c1 c2 c3
      have eg : ((List.range n).map f)[i] = f i := by simp
      rw [eg]
      exact ⟨⟨c0, by rw [Nat.add_assoc]; exact c1, by rw [Nat.add_assoc]; exact c2, by rw [Nat.add_assoc]; exact c3⟩, hin⟩

end
end Go.Proofs.Qxb6632497a
