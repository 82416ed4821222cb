/- Terms, segments and the slice of segments that came in. -/
import Derived.Test.Qxb6632608aRows
import Derived.WalkKit
import Derived.WalkSpells
import Derived.Below
import Derived.BigQuiet
import Derived.Deep.QuietTactic
import Derived.Deep.RegionHeld3
import Derived.Deep.DrawnRows
namespace Go.Proofs.Qxb6632608a
open Go.RowKit

theorem hid {p : Prop} (h : p) : Hid p := h

theorem orR {a b c : Prop} (h : a ∨ b) (f : b → c) : a ∨ c := by
  rcases h with h | h
  · exact Or.inl h
  · exact Or.inr (f h)

/-- A term, plain. -/
structure Tm where
  key : ByteArray
  idx : Int
  isx : Bool
structure TmAt (w : World) (b o : Nat) (t : Tm) : Prop where
  c0 : w.cell? ⟨b, o, none⟩ = some (.string t.key)
  c1 : w.cell? ⟨b, o + 1, none⟩ = some (.int .i64 t.idx)
  c2 : w.cell? ⟨b, o + 2, none⟩ = some (.bool t.isx)
theorem TmAt.lt {w : World} {b o : Nat} {t : Tm} (h : TmAt w b o t) : b < w.heap.size := World.block_lt_of_cell? w _ h.c0
theorem TmAt.below {w w' : World} {b o B : Nat} {t : Tm} (h : TmAt w b o t) (hb : Below B w w') (hlt : b < B) : TmAt w' b o t :=
  ⟨(hb.cell (p := ⟨b, o, none⟩) hlt).trans h.c0, (hb.cell (p := ⟨b, o + 1, none⟩) hlt).trans h.c1, (hb.cell (p := ⟨b, o + 2, none⟩) hlt).trans h.c2⟩
def TmsAt (w : World) (b off : Nat) (ts : List Tm) : Prop := ∀ i (hi : i < ts.length), TmAt w b (off + i * 3) ts[i]
/-- The slice '.slice a n ..' can be read and holds the terms ts. -/
def Seg (w : World) (a : Option Addr) (n : Nat) (ts : List Tm) : Prop := n = ts.length ∧ (n = 0 ∨ ∃ b off, a = some ⟨b, off, none⟩ ∧ TmsAt w b off ts)
theorem Seg.below {w w' : World} {a : Option Addr} {n : Nat} {ts : List Tm} (h : Seg w a n ts) (hb : Below w.heap.size w w') : Seg w' a n ts := by
  obtain ⟨h1, h2⟩ := h
  exact ⟨h1, orR h2 fun ⟨b, off, ha, hc⟩ => ⟨b, off, ha, fun i hi => (hc i hi).below hb (hc i hi).lt⟩⟩
/-- .. and its memory lies from block B on, at a row's head. -/
def SegB (w : World) (B : Nat) (a : Option Addr) (n : Nat) (ts : List Tm) : Prop := n = ts.length ∧ (n = 0 ∨ ∃ b, a = some ⟨b, 0, none⟩ ∧ B ≤ b ∧ TmsAt w b 0 ts)
theorem SegB.seg {w : World} {B : Nat} {a : Option Addr} {n : Nat} {ts : List Tm} (h : SegB w B a n ts) : Seg w a n ts := ⟨h.1, orR h.2 fun ⟨b, ha, _, hc⟩ => ⟨b, 0, ha, hc⟩⟩
/-- Two worlds that agree from block B on, as far as the first reaches. -/
def Onw (B : Nat) (w w' : World) : Prop := ∀ g, B ≤ g → g < w.heap.size → w'.heap[g]? = w.heap[g]?
theorem Onw.cell {B : Nat} {w w' : World} (h : Onw B w w') {p : Addr} {v : Value} (hp : B ≤ p.block) (hc : w.cell? p = some v) : w'.cell? p = some v :=
  (World.cell?_of_block (w := w) (h p.block hp (World.block_lt_of_cell? w p hc))).trans hc
theorem Onw.of_below {B : Nat} {w w' : World} (h : Below w.heap.size w w') : Onw B w w' := fun g _ hg => h.block g hg
theorem SegB.onward {w w' : World} {B : Nat} {a : Option Addr} {n : Nat} {ts : List Tm} (h : SegB w B a n ts) (hf : Onw B w w') : SegB w' B a n ts := by
  obtain ⟨h1, h2⟩ := h
  refine ⟨h1, orR h2 fun ⟨b, ha, hB, hc⟩ => ⟨b, ha, hB, fun i hi => ?_⟩⟩
  obtain ⟨c0, c1, c2⟩ := hc i hi
  exact ⟨hf.cell hB c0, hf.cell hB c1, hf.cell hB c2⟩
theorem SegB.mono {w : World} {B B' : Nat} {a : Option Addr} {n : Nat} {ts : List Tm} (h : SegB w B a n ts) (hB : B' ≤ B) : SegB w B' a n ts :=
  ⟨h.1, orR h.2 fun ⟨b, ha, h2, hc⟩ => ⟨b, ha, Nat.le_trans hB h2, hc⟩⟩

/-- A segment as it came in. -/
structure Sg where
  a : Option Addr
  n : Nat
  c : Nat
  ts : List Tm
structure SgIn (w : World) (s : Sg) : Prop where
  seg : Seg w s.a s.n s.ts
  len : s.n ≤ maxLen
  keys : ∀ t ∈ s.ts, t.key.size ≤ maxLen
theorem SgIn.below {w w' : World} {s : Sg} (h : SgIn w s) (hb : Below w.heap.size w w') : SgIn w' s := ⟨h.seg.below hb, h.len, h.keys⟩
def InAt (w : World) (b off : Nat) (ss : List Sg) : Prop := ∀ i (hi : i < ss.length), w.cell? ⟨b, off + i, none⟩ = some (.slice ss[i].a ss[i].n ss[i].c) ∧ SgIn w ss[i]
def In (w : World) (a : Option Addr) (n : Nat) (ss : List Sg) : Prop := n = ss.length ∧ n ≤ maxLen ∧ (n = 0 ∨ ∃ b off, a = some ⟨b, off, none⟩ ∧ InAt w b off ss)
theorem InAt.below {w w' : World} {b off : Nat} {ss : List Sg} (h : InAt w b off ss) (hb : Below w.heap.size w w') : InAt w' b off ss := fun i hi =>
  ⟨(hb.cell (p := ⟨b, off + i, none⟩) (World.block_lt_of_cell? w _ (h i hi).1)).trans (h i hi).1, (h i hi).2.below hb⟩
theorem In.below {w w' : World} {a : Option Addr} {n : Nat} {ss : List Sg} (h : In w a n ss) (hb : Below w.heap.size w w') : In w' a n ss :=
  ⟨h.1, h.2.1, orR h.2.2 fun ⟨b, off, ha, hc⟩ => ⟨b, off, ha, hc.below hb⟩⟩

/-- Lengths and keys are no longer than 2^20. -/
def Sml (s : Sg) : Prop := s.n ≤ 1048576 ∧ ∀ t ∈ s.ts, t.key.size ≤ 1048576
/-- All terms, in order. -/
def joined (ss : List Sg) : List Tm := ss.flatMap (·.ts)
theorem joined_take_succ (ss : List Sg) (k : Nat) (hk : k < ss.length) : joined (ss.take (k + 1)) = joined (ss.take k) ++ ss[k].ts := by
  unfold joined
  rw [List.take_succ_eq_append_getElem hk, List.flatMap_append, List.flatMap_cons, List.flatMap_nil, List.append_nil]

end Go.Proofs.Qxb6632608a
