/- A slice of segments that came in, opened. -/
import Derived.Test.Qxb6632608aBase
import Derived.ProofKit
import Derived.OpenShut
import Derived.Deep.Slices
namespace Go.Proofs.Qxb6632608a
open Go.RowKit Go.ChangeShapes Go.WideShapes Go.Deep

theorem Try.cells35 : Try.prog.cellsOf 35 = 1 := by kernel_rfl
theorem Try.cells36 : Try.prog.cellsOf 36 = 3 := by kernel_rfl
theorem Try.cells9 : Try.prog.cellsOf 9 = 1 := by kernel_rfl
theorem Try.cells3 : Try.prog.cellsOf 3 = 1 := by kernel_rfl
theorem Try.cells4 : Try.prog.cellsOf 4 = 1 := by kernel_rfl

section
variable {H : Type} {enc : TypeId × Value → H} {W : World}

/-- A segment in a cell. -/
theorem open_seg {fuel : Nat} {v : Value} {x : DataW H × List MemPlace} (h : DataW.trod enc Try.prog W 0 (fun _ => true) true fuel 35 [v] = some x) :
    ∃ s : Sg, v = .slice s.a s.n s.c ∧ SgIn W s := by
  rcases open_slice Try.underlying35 h with ⟨hcs, _⟩ | ⟨ad, n, cp, m, k, D, Pl, hcs, _, hl, hm, hmm, _, hx⟩
  · simp at hcs
    subst hcs
    exact ⟨⟨none, 0, 0, []⟩, rfl, ⟨⟨rfl, Or.inl rfl⟩, Nat.zero_le _, fun t ht => by cases ht⟩⟩
  · simp at hcs hmm
    subst hcs
    have each : ∀ i, i < n → ∃ t : Tm, (W.cell? (ad.add (i * 3)) = some (.string t.key) ∧ W.cell? (ad.add (i * 3 + 1)) = some (.int .i64 t.idx) ∧ W.cell? (ad.add (i * 3 + 2)) = some (.bool t.isx)) ∧ t.key.size ≤ maxLen := by
      intro i hi
      obtain ⟨cs', h1, h2⟩ := hx i (by omega)
      rw [Try.cells36] at h1
      obtain ⟨_, hlen, hcell⟩ := World.cells?_some h1
      obtain ⟨xs, q, hq, hxy, _, hxl, hf⟩ := DataW.trod_struct Try.underlying36 h2
      match xs, hxl, cs', hlen with
      | [y0, y1, y2], _, [v0, v1, v2], _ =>
        have g0 := hf 0 _ rfl
        have g1 := hf 1 _ rfl
        have g2 := hf 2 _ rfl
        simp [Try.cells9, Try.cells3, Try.cells4] at g0 g1 g2
        have e0 := hcell 0 (by omega)
        have e1 := hcell 1 (by omega)
        have e2 := hcell 2 (by omega)
        rw [add_add] at e0 e1 e2
        obtain ⟨s, hs, _, hsz⟩ := DataW.trod_string Try.underlying9 g0
        obtain ⟨z, hz, _, _⟩ := DataW.trod_int Try.underlying3 g1
        obtain ⟨b, hb, _⟩ := DataW.trod_bool Try.underlying4 g2
        simp at hs hz hb
        subst hs
        subst hz
        subst hb
        exact ⟨⟨s, z, b⟩, ⟨by simpa using e0, e1, e2⟩, hsz⟩
    have _inh : Inhabited Tm := ⟨⟨⟨#[]⟩, 0, false⟩⟩
    obtain ⟨f, hf⟩ := choose_lt each
    refine ⟨⟨some ad, n, cp, (List.range n).map f⟩, rfl, ⟨⟨by simp, ?_⟩, Nat.le_trans hl hm, ?_⟩⟩
    · by_cases h0 : n = 0
      · exact Or.inl h0
      · have hsp : ad.spot = none := by
          have := (hf 0 (by omega)).1.1
          simpa [Addr.add] using World.cell?_spot this
        obtain ⟨b, off, sp⟩ := ad
        simp only at hsp
        subst hsp
        refine Or.inr ⟨b, off, rfl, fun i hi => ?_⟩
        have hi' : i < n := by simpa using hi
        obtain ⟨⟨c0, c1, c2⟩, _⟩ := hf i hi'
        rw [add_plain] at c0 c1 c2
        have eg : ((List.range n).map f)[i] = f i := by simp
        rw [eg]
        exact ⟨c0, by rw [Nat.add_assoc]; exact c1, by rw [Nat.add_assoc]; exact c2⟩
    · intro t ht
      obtain ⟨i, hi, rfl⟩ := List.mem_map.1 ht
      exact (hf i (by simpa using hi)).2

/-- THE ARGUMENT. -/
theorem open_in {fuel : Nat} {a : Option Addr} {n cap : Nat} {x : DataW H × List MemPlace} (h : DataW.trod enc Try.prog W 0 (fun _ => true) true fuel 22 [.slice a n cap] = some x) :
    ∃ ss, In W a n ss := by
  rcases open_slice Try.underlying22 h with ⟨hcs, _⟩ | ⟨ad, len, cp, m, k, D, Pl, hcs, _, hl, hm, hmm, _, hx⟩
  · simp at hcs
    obtain ⟨rfl, rfl, rfl⟩ := hcs
    exact ⟨[], rfl, Nat.zero_le _, Or.inl rfl⟩
  · simp at hcs hmm
    obtain ⟨rfl, rfl, rfl⟩ := hcs
    have each : ∀ i, i < n → ∃ s : Sg, W.cell? (ad.add i) = some (.slice s.a s.n s.c) ∧ SgIn W s := by
      intro i hi
      obtain ⟨cs', h1, h2⟩ := hx i (by omega)
      rw [Try.cells35, Nat.mul_one] at h1
      obtain ⟨_, hlen, hcell⟩ := World.cells?_some h1
      match cs', hlen with
      | [v0], _ =>
        have e0 := hcell 0 (by omega)
        rw [add_add] at e0
        obtain ⟨s, rfl, hs⟩ := open_seg h2
        exact ⟨s, by simpa using e0, hs⟩
    have _inh : Inhabited Sg := ⟨⟨none, 0, 0, []⟩⟩
    obtain ⟨f, hf⟩ := choose_lt each
    refine ⟨(List.range n).map f, by simp, Nat.le_trans hl hm, ?_⟩
    by_cases h0 : n = 0
    · exact Or.inl h0
    · have hsp : ad.spot = none := by
        have := (hf 0 (by omega)).1
        simpa [Addr.add] using World.cell?_spot this
      obtain ⟨b, off, sp⟩ := ad
      simp only at hsp
      subst hsp
      refine Or.inr ⟨b, off, rfl, fun i hi => ?_⟩
      have hi' : i < n := by simpa using hi
      obtain ⟨c0, hin⟩ := hf i hi'
      rw [add_plain] at c0
      have eg : ((List.range n).map f)[i] = f i := by simp
      rw [eg]
      exact ⟨c0, hin⟩

end
end Go.Proofs.Qxb6632608a
