/- The maps of the seat: keys that are structs of two u32, elements that are GTIDs; how they read. -/
import Derived.Test.Qxb6632418aRows
import Derived.WalkKit
import Derived.DeepKeys4
import Derived.Maps.RangeWalk
namespace Go.Proofs.Qxb6632418a
open Go.RowKit Go.Maps

theorem Try.laidOut : laidOutB Try.prog = true := by kernel_rfl
theorem Try.row42 : (42 : TypeId) < Try.prog.types.size := of_decide_eq_true (by kernel_rfl)
theorem Try.cells42 : Try.prog.cellsOf 42 = 2 := by kernel_rfl
theorem Try.cells34 : Try.prog.cellsOf 34 = 3 := by kernel_rfl
theorem Try.cells24 : Try.prog.cellsOf 24 = 1 := by kernel_rfl
theorem Try.keyType42 : Try.prog.keyType 42 = true := by kernel_rfl
theorem Try.wide42 : (match Try.prog.underlying 42 with | some (.array _ _) | some (.struct _) => true | _ => false) = true := by kernel_rfl
theorem law42 : Keyed Try.prog 42 := Keyed.of_law (deep_law_laid Try.laidOut (m := 3) (by omega) Try.row42 (by kernel_rfl) Try.wide42)
theorem law24 : Keyed Try.prog 24 := int_keyed Try.underlying24

def U32 (x : Int) : Prop := (Lit.int .u32 x).wf = true
def U64 (x : Int) : Prop := (Lit.int .u64 x).wf = true

/-- What the pair (d, s) reads as, as a key. -/
def kl (d s : Int) : Lit := .string (keyBytes [.int .u32 d, .int .u32 s])

theorem keyLits42 (m : Nat) (c0 c1 : Value) : Try.prog.keyLits (m + 1 + 1) 42 [c0, c1] = (match c0, c1 with
    | .int q0 d, .int q1 s => if (q0 = .u32 ∧ (Lit.int .u32 d).wf = true) ∧ (q1 = .u32 ∧ (Lit.int .u32 s).wf = true) then some [.int .u32 d, .int .u32 s] else none
    | _, _ => none) := by
  have f : ∀ c, Try.prog.keyLits (m + 1) 24 [c] = (match c with | .int q d => if q = .u32 ∧ (Lit.int .u32 d).wf = true then some [.int .u32 d] else none | _ => none) := by
    intro c
    unfold Program.keyLits
    rw [Try.underlying24]
    cases c <;> rfl
  unfold Program.keyLits
  rw [Try.underlying42, Try.cells42]
  simp only [List.mapM_cons, List.mapM_nil, Try.cells24, List.drop, List.take, f]
  cases c0 <;> simp
  cases c1 <;> simp
  rename_i q0 d q1 s
  by_cases h1 : q0 = .u32 ∧ (Lit.int .u32 d).wf = true <;> by_cases h2 : q1 = .u32 ∧ (Lit.int .u32 s).wf = true <;> simp [h1, h2]

theorem keyOf42 (v : Value) : keyOf Try.prog 42 v = if v.formed Try.prog 42 then (Try.prog.keyLits (58 + 1 + 1) 42 v.cells.toList).map fun ls => .string (keyBytes ls) else none := by
  have e : Try.prog.types.size + 1 = 58 + 1 + 1 := by kernel_rfl
  unfold keyOf
  rw [Try.underlying42, Try.keyType42, e]
  simp

theorem key_mk {d s : Int} (hd : U32 d) (hs : U32 s) : keyOf Try.prog 42 (.agg #[.int .u32 d, .int .u32 s]) = some (kl d s) := by
  unfold U32 at hd hs
  rw [keyOf42]
  have f : (Value.agg #[.int .u32 d, .int .u32 s]).formed Try.prog 42 = true := by simp [Value.formed, Try.underlying42, Try.cells42]
  rw [if_pos f]
  simp only [Value.cells, keyLits42]
  simp [hd, hs, kl]

theorem key_inv {key : Value} {k : Lit} (h : keyOf Try.prog 42 key = some k) : ∃ d s, key = .agg #[.int .u32 d, .int .u32 s] ∧ U32 d ∧ U32 s ∧ k = kl d s := by
  rw [keyOf42] at h
  split at h
  · rename_i f
    simp only [Value.formed, Try.underlying42, Try.cells42] at f
    cases key <;> simp at f
    rename_i cs
    obtain ⟨l⟩ := cs
    match l, f with
    | [c0, c1], _ =>
      simp only [Value.cells, keyLits42] at h
      cases c0 <;> simp at h
      cases c1 <;> simp at h
      obtain ⟨_, ⟨⟨⟨rfl, h1⟩, rfl, h2⟩, rfl⟩, rfl⟩ := h
      exact ⟨_, _, rfl, h1, h2, rfl⟩
  · cases h

theorem kl_inj {d s d' s' : Int} (hd : U32 d) (hs : U32 s) (hd' : U32 d') (hs' : U32 s') (h : kl d s = kl d' s') : d = d' ∧ s = s' := by
  have h1 := key_mk hd hs
  rw [h] at h1
  have := law42.inj h1 (key_mk hd' hs')
  simpa using this

/-- A GTID as a value, and as a datum. -/
def gv (d s q : Int) : Value := .agg #[.int .u32 d, .int .u32 s, .int .u64 q]
def gd (d s q : Int) : DataW Unit := .agg [.lit (.int .u32 d), .lit (.int .u32 s), .lit (.int .u64 q)]

/-- How an element of the map 'latest' reads. -/
def gElem : Value → Option (DataW Unit × List MemPlace)
  | .agg cs => match cs.toList with
    | [.int .u32 d, .int .u32 s, .int .u64 q] => some (gd d s q, [])
    | _ => none
  | _ => none
theorem gElem_mk (d s q : Int) : gElem (gv d s q) = some (gd d s q, []) := by simp [gElem, gv]
theorem gElem_inv {v : Value} {z : DataW Unit × List MemPlace} (h : gElem v = some z) : ∃ d s q, v = gv d s q ∧ z = (gd d s q, []) := by
  unfold gElem at h
  split at h
  · rename_i cs
    split at h
    · rename_i d s q hc
      refine ⟨d, s, q, ?_, (Option.some.inj h).symm⟩
      obtain ⟨l⟩ := cs
      simp at hc
      subst hc
      rfl
    · cases h
  · cases h
theorem gd_inj {d s q d' s' q' : Int} (h : gd d s q = gd d' s' q') : d = d' ∧ s = s' ∧ q = q' := by
  simpa [gd] using h
theorem zero34 (w : World) : (zeroValue 34).run Try.prog w = .ok (gv 0 0 0) w := by kernel_rfl
theorem zero32 (w : World) : (zeroValue 32).run Try.prog w = .ok (.int .u64 0) w := by kernel_rfl

end Go.Proofs.Qxb6632418a
