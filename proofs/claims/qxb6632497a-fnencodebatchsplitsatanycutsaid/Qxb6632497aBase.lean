/- Byte slices that the call owns, byte slices that are read, and append onto the former from the latter. -/
import Derived.Test.Qxb6632497aRows
import Derived.WalkKit
import Derived.Lib.VarintMem
import Derived.Maps.AppendAt
import Derived.Deep.Onto
namespace Go.Proofs.Qxb6632497a
open Go.RowKit

theorem Try.info5 : (Try.prog.info? 5).map (fun i => (i.zero, i.size, i.bytes)) = some (some (.int .u8 0), 1, 1) := by kernel_rfl

theorem orR {a b c : Prop} (h : a ∨ b) (f : b → c) : a ∨ c := by
  rcases h with h | h
  · exact Or.inl h
  · exact Or.inr (f h)

/-- The block of a slice's address. -/
def blk (a : Option Addr) : Option Nat := a.map (·.block)
theorem ownBlock_slice (a : Option Addr) (n c : Nat) : (Value.slice a n c).ownBlock = blk a := by cases a <;> rfl

/-- The slice '.slice a n cap' is one of the call's own (its block from B on, or nil) and holds the bytes bs. -/
def Own (w : World) (B : Nat) (a : Option Addr) (n cap : Nat) (bs : List UInt8) : Prop := w.ownsRow B 5 1 (.slice a n cap) n (Lib.byteCells bs)
theorem Own.len {w : World} {B n cap : Nat} {a : Option Addr} {bs : List UInt8} (h : Own w B a n cap bs) : n = bs.length := by
  have := h.1
  simp [Lib.byteCells] at this
  exact this.symm
theorem own_nil (w : World) (B : Nat) : Own w B none 0 0 [] := World.ownsRow_nil w B 5 1

/-- The slice '.slice a n ..' can be read and holds the bytes bs. -/
def Src8 (w : World) (a : Option Addr) (n : Nat) (bs : List UInt8) : Prop :=
  n = bs.length ∧ (n = 0 ∨ ∃ b off, a = some ⟨b, off, none⟩ ∧ ∀ j u, (Lib.byteCells bs)[j]? = some u → w.cell? ⟨b, off + j, none⟩ = some u)
theorem Own.src {w : World} {B n cap : Nat} {a : Option Addr} {bs : List UInt8} (h : Own w B a n cap bs) : Src8 w a n bs := by
  refine ⟨h.len, ?_⟩
  rcases h.2 with ⟨_, hn⟩ | ⟨g, c, cur, hv, hb, hg, _⟩
  · exact Or.inl hn
  · refine Or.inr ⟨g, 0, ?_, fun j u hu => ?_⟩
    · cases a with
      | none => cases hv
      | some x => simp at hv; rw [hv.1]
    · have := h.cells (g := g) (by rw [hv]; rfl) j u hu
      rw [← WideShapes.add_plain]
      exact this

/-- What has turned between w and w' is the row of a alone; a' is that row, or new. -/
structure Grew (w w' : World) (a a' : Option Addr) : Prop where
  grown : w.grownBy w' (blk a)
  loc : blk a' = blk a ∨ ∃ g, w.heap.size ≤ g ∧ blk a' = some g
theorem Grew.refl (w : World) (a : Option Addr) : Grew w w a a := ⟨⟨rfl, rfl, rfl, Nat.le_refl _, fun _ _ _ => rfl⟩, Or.inl rfl⟩
theorem Grew.trans {w w' w'' : World} {a a' a'' : Option Addr} (h : Grew w w' a a') (k : Grew w' w'' a' a'') : Grew w w'' a a'' := by
  refine ⟨⟨k.grown.os.trans h.grown.os, k.grown.tape.trans h.grown.tape, k.grown.output.trans h.grown.output, Nat.le_trans h.grown.size k.grown.size, fun i hi hne => ?_⟩, ?_⟩
  · have hs := h.grown.size
    refine (k.grown.block i (by omega) (fun e => ?_)).trans (h.grown.block i hi hne)
    rcases h.loc with h1 | ⟨g, h1, h2⟩
    · exact hne (e.trans h1)
    · rw [h2] at e
      have := Option.some.inj e
      omega
  · rcases k.loc with k1 | ⟨g, k1, k2⟩
    · rcases h.loc with h1 | ⟨g, h1, h2⟩
      · exact Or.inl (k1.trans h1)
      · exact Or.inr ⟨g, h1, k1.trans h2⟩
    · exact Or.inr ⟨g, Nat.le_trans h.grown.size k1, k2⟩
theorem Grew.alloc {w w' : World} {a a' : Option Addr} (h : Grew w w' a a') (o : Obj) : Grew w (w'.alloc o) a a' := by
  refine ⟨⟨h.grown.os, h.grown.tape, h.grown.output, Nat.le_trans h.grown.size (by simp), fun i hi hne => ?_⟩, h.loc⟩
  have hs := h.grown.size
  exact (Below.heap_alloc w' o i (by omega)).trans (h.grown.block i hi hne)
theorem Grew.drew {w w' : World} {a a' : Option Addr} (h : Grew w w' a a') : Grew w w'.drew a a' := ⟨⟨h.grown.os, h.grown.tape, h.grown.output, h.grown.size, h.grown.block⟩, h.loc⟩
theorem Grew.ofBelow {w w' : World} (a : Option Addr) (h : Below w.heap.size w w') : Grew w w' a a := ⟨⟨h.os, h.tape, h.output, h.size, fun i hi _ => h.block i hi⟩, Or.inl rfl⟩
theorem Own.blk_ge {w : World} {B n cap : Nat} {a : Option Addr} {bs : List UInt8} (h : Own w B a n cap bs) {g : Nat} (hg : blk a = some g) : B ≤ g ∧ g < w.heap.size :=
  World.ownsRow.lt h g (by rw [ownBlock_slice]; exact hg)
theorem Grew.below {w w' : World} {a a' : Option Addr} {B n cap : Nat} {bs : List UInt8} (h : Grew w w' a a') (ho : Own w B a n cap bs) (hB : B ≤ w.heap.size) : Below B w w' :=
  ⟨h.grown.os, h.grown.tape, h.grown.output, h.grown.size, fun i hi => h.grown.block i (by omega) (fun e => by have := (ho.blk_ge e.symm).1; omega)⟩
theorem Own.alloc {w : World} {B n cap : Nat} {a : Option Addr} {bs : List UInt8} (h : Own w B a n cap bs) (o : Obj) : Own (w.alloc o) B a n cap bs := World.ownsRow.alloc h o
theorem Own.below {w w' : World} {B n cap : Nat} {a : Option Addr} {bs : List UInt8} (h : Own w B a n cap bs) (hb : Below w.heap.size w w') : Own w' B a n cap bs :=
  World.ownsRow.kept h (w' := w') (row := none) ⟨hb.os, hb.tape, hb.output, hb.size, fun i hi _ => hb.block i hi⟩ (by cases (Value.slice a n cap).ownBlock <;> simp)
theorem Src8.below {w w' : World} {B n : Nat} {a : Option Addr} {bs : List UInt8} (h : Src8 w a n bs) (hb : Below B w w') (hlt : ∀ g, blk a = some g → g < B) : Src8 w' a n bs := by
  obtain ⟨h1, h2⟩ := h
  refine ⟨h1, orR h2 fun ⟨b, off, ha, hc⟩ => ⟨b, off, ha, fun j u hu => ?_⟩⟩
  exact (hb.cell (p := ⟨b, off + j, none⟩) (hlt b (by rw [ha]; rfl))).trans (hc j u hu)
/-- .. asked of a slice that is not empty alone. -/
theorem Src8.below' {w w' : World} {B n : Nat} {a : Option Addr} {bs : List UInt8} (h : Src8 w a n bs) (hb : Below B w w') (hlt : 0 < n → ∀ g, blk a = some g → g < B) : Src8 w' a n bs := by
  by_cases h0 : n = 0
  · exact ⟨h.1, Or.inl h0⟩
  · exact h.below hb (hlt (by omega))
theorem Src8.grew {w w' : World} {n : Nat} {a x x' : Option Addr} {bs : List UInt8} (h : Src8 w a n bs) (hg : Grew w w' x x') (hne : ∀ g, blk a = some g → g < w.heap.size ∧ blk x ≠ some g) : Src8 w' a n bs := by
  obtain ⟨h1, h2⟩ := h
  refine ⟨h1, orR h2 fun ⟨b, off, ha, hc⟩ => ⟨b, off, ha, fun j u hu => ?_⟩⟩
  obtain ⟨k1, k2⟩ := hne b (by rw [ha]; rfl)
  exact (World.cell?_of_block (w := w) (a := ⟨b, off + j, none⟩) (hg.grown.block b k1 (fun e => k2 e.symm))).trans (hc j u hu)

theorem bytes_one (bs : List UInt8) : ∀ u ∈ Lib.byteCells bs, u.oneCell' = true := by
  intro u hu
  obtain ⟨b, _, rfl⟩ := List.mem_map.1 hu
  rfl

/-- append: the run. -/
theorem run_app (w : World) (ty : TypeId) (B : Nat) (a : Option Addr) (n cap : Nat) (bs : List UInt8) (hown : Own w B a n cap bs) (a2 : Option Addr) (m c2 : Nat) (news : List UInt8) (hsrc : Src8 w a2 m news) (hlim : n + m ≤ 140737488355328) (hB : B ≤ w.heap.size) :
    ∃ a' k cap' w', (Builtin.append_ #[24, 24] ty #[.slice a n cap, .slice a2 m c2]).run Try.prog w = .ok (.slice a' k cap') w' ∧ Own w' B a' k cap' (bs ++ news) ∧ Grew w w' a a' := by
  obtain ⟨i0, hi, hz0, hz1, hz2⟩ := info_parts Try.info5
  rcases hsrc with ⟨hm, h0 | ⟨b, off, rfl, hc⟩⟩
  · have hnil : news = [] := by
      apply List.eq_nil_of_length_eq_zero
      omega
    subst h0
    subst hnil
    have hle : n ≤ cap := by
      rcases hown.2 with ⟨hv, _⟩ | ⟨g, c, cur, hv, _, _, hle, _⟩
      · simp at hv; omega
      · simp at hv; omega
    refine ⟨a, n, cap, w, ?_, by rw [List.append_nil]; exact hown, Grew.refl w a⟩
    have hf : (Builtin.firstCells 1 0 (.slice a2 0 c2)).run Try.prog w = .ok #[] w := by
      cases a2 with
      | none => rfl
      | some x => simpa using run_firstCells_some (P := Try.prog) w 1 0 x 0 c2 [] rfl (fun j u hu => by simp at hu)
    cases a with
    | none => simp [Builtin.append_, run_underlying Try.underlying24, sizeOf, typeInfo, hi, hz1, Builtin.lenOf, hle, hf]
    | some x => simp [Builtin.append_, run_underlying Try.underlying24, sizeOf, typeInfo, hi, hz1, Builtin.lenOf, hle, hf, storeCells]
  · obtain ⟨v', w', hr, h2, h3, _, h5⟩ := run_append_own_at (P := Try.prog) w B 24 ty 5 i0 (.int .u8 0) 1 1 Try.underlying24 hi hz0 hz1 hz2 rfl (by decide) (.slice a n cap) n (Lib.byteCells bs) hown ⟨b, off, none⟩ m c2 (Lib.byteCells news) (by simp [Lib.byteCells, hm]) (fun j u hu => by rw [WideShapes.add_plain]; exact hc j u hu) (bytes_one news) (by unfold maxLen; omega) (by omega) hB
    have hform : ∃ a' cap', v' = .slice a' (n + m) cap' := by
      rcases h2.2 with ⟨h, hn⟩ | ⟨g, c, _, h, _⟩
      · exact ⟨none, 0, by rw [h, hn]⟩
      · exact ⟨_, c, h⟩
    obtain ⟨a', cap', rfl⟩ := hform
    have hcc : Lib.byteCells bs ++ Lib.byteCells news = Lib.byteCells (bs ++ news) := by simp [Lib.byteCells]
    rw [hcc] at h2
    rw [ownBlock_slice, ownBlock_slice] at h5
    rw [ownBlock_slice] at h3
    exact ⟨a', n + m, cap', w', hr, h2, h3, orR h5 fun h => ⟨_, Nat.le_refl _, h⟩⟩

/-- append, at the operation. -/
theorem wpList_app (w : World) {ops : Array Oper} {rest : List Oper} {o : Oper} {f : Act} {Q : Exit → Act → World → Prop} (hgd : o.guard = none) (s x : Operand)
    (ho : o.op = .call { callee := .builtin .append, args := #[s, x], argTypes := #[24, 24] })
    (B : Nat) (a : Option Addr) (n cap : Nat) (bs : List UInt8) (hs : f.eval s = .slice a n cap) (hown : Own w B a n cap bs)
    (a2 : Option Addr) (m c2 : Nat) (news : List UInt8) (hx : f.eval x = .slice a2 m c2) (hsrc : Src8 w a2 m news) (hlim : n + m ≤ 140737488355328) (hB : B ≤ w.heap.size)
    (h : ∀ a' k cap' w', Own w' B a' k cap' (bs ++ news) → Grew w w' a a' → wpList Try.prog ops Q rest (f.put o.dst (.slice a' k cap')) w') : wpList Try.prog ops Q (o :: rest) f w := by
  refine wpList_plain hgd fun K hK => ?_
  obtain ⟨a', k, cap', w', hr, h2, h3⟩ := run_app w o.type B a n cap bs hown a2 m c2 news hsrc hlim hB
  unfold Oper.wp execOp
  simp only [ho, resolve, invoke, builtin, Sem.run_bind, Sem.run_pure, Result.andThen_ok, List.map_toArray, List.map_cons, List.map_nil, hs, hx, hr]
  exact hK _ _ (h a' k cap' w' h2 h3)

end Go.Proofs.Qxb6632497a
