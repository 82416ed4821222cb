/- The two maps behind a log of events: what stands at a key. -/
import Derived.Test.Qxb6632418aW1
import Derived.Test.Qxb6632418aPure
namespace Go.Proofs.Qxb6632418a
open Go.RowKit Go.Maps Logs

def M1 (l : List Ev) : DataW Unit := l.foldl (fun D e => D.put (kl e.1 e.2.1) (.lit (.int .u64 e.2.2))) (.map [])
def M2 (l : List Ev) : DataW Unit := l.foldl (fun D e => D.put (.int .u32 e.1) (gd e.1 e.2.1 e.2.2)) (.map [])
theorem M1_snoc (l : List Ev) (e : Ev) : M1 (l ++ [e]) = (M1 l).put (kl e.1 e.2.1) (.lit (.int .u64 e.2.2)) := by simp [M1, List.foldl_append]
theorem M2_snoc (l : List Ev) (e : Ev) : M2 (l ++ [e]) = (M2 l).put (.int .u32 e.1) (gd e.1 e.2.1 e.2.2) := by simp [M2, List.foldl_append]
theorem M1_map (l : List Ev) : IsMap (M1 l) := by
  induction l using snoc_ind with
  | h0 => exact isMap_empty
  | h1 l a ih => rw [M1_snoc]; exact ih.put _ _
theorem M2_map (l : List Ev) : IsMap (M2 l) := by
  induction l using snoc_ind with
  | h0 => exact isMap_empty
  | h1 l a ih => rw [M2_snoc]; exact ih.put _ _

def WfEv (l : List Ev) : Prop := ∀ e ∈ l, U32 e.1 ∧ U32 e.2.1 ∧ U64 e.2.2
theorem WfEv.left {l m : List Ev} (h : WfEv (l ++ m)) : WfEv l := fun e he => h e (by simp [he])
theorem WfEv.snoc {l : List Ev} {e : Ev} (h : WfEv l) (h1 : U32 e.1) (h2 : U32 e.2.1) (h3 : U64 e.2.2) : WfEv (l ++ [e]) := by
  intro x hx
  rcases List.mem_append.1 hx with hx | hx
  · exact h x hx
  · rw [List.mem_singleton.1 hx]; exact ⟨h1, h2, h3⟩

theorem keyLit_kl (d s : Int) : WideAt.IsKeyLit (kl d s) := trivial
theorem keyLit_int (d : Int) : WideAt.IsKeyLit (.int .u32 d) := trivial

def at2 (d : Int) : Option (Int × Int) → DataW Unit → DataW Unit
  | some sq, _ => gd d sq.1 sq.2
  | none, z => z
def at1 : Option Int → DataW Unit → DataW Unit
  | some q, _ => .lit (.int .u64 q)
  | none, z => z

theorem M2_at (l : List Ev) (d : Int) : (∀ z, (M2 l).atKey (.int .u32 d) z = at2 d (latest l d) z) ∧ Maps.has (M2 l) (.int .u32 d) = (latest l d).isSome := by
  induction l using snoc_ind with
  | h0 => exact ⟨fun _ => rfl, rfl⟩
  | h1 l a ih =>
    obtain ⟨a0, a1, a2⟩ := a
    rw [M2_snoc, latest_snoc]
    by_cases h : a0 = d
    · subst h
      simp only [if_true]
      exact ⟨fun z => atKey_put_same (M2_map l) (keyLit_int a0) _ z, has_put_same (M2_map l) (keyLit_int a0) _⟩
    · have hne : Lit.int .u32 d ≠ Lit.int .u32 a0 := fun e => h (by cases e; rfl)
      simp only [h, if_false]
      exact ⟨fun z => (atKey_put_other hne _ z).trans (ih.1 z), (has_put_other hne _).trans ih.2⟩

theorem M1_at (l : List Ev) (hl : WfEv l) (d s : Int) (hd : U32 d) (hs : U32 s) : (∀ z, (M1 l).atKey (kl d s) z = at1 (lastSeq l d s) z) ∧ Maps.has (M1 l) (kl d s) = (lastSeq l d s).isSome := by
  induction l using snoc_ind with
  | h0 => exact ⟨fun _ => rfl, rfl⟩
  | h1 l a ih =>
    have hw := hl a (by simp)
    have ih := ih hl.left
    obtain ⟨a0, a1, a2⟩ := a
    rw [M1_snoc, lastSeq_snoc]
    by_cases h : a0 = d ∧ a1 = s
    · obtain ⟨rfl, rfl⟩ := h
      simp only [and_self, if_true]
      exact ⟨fun z => atKey_put_same (M1_map l) (keyLit_kl _ _) _ z, has_put_same (M1_map l) (keyLit_kl _ _) _⟩
    · have hne : kl d s ≠ kl a0 a1 := fun e => h (by
        obtain ⟨e1, e2⟩ := kl_inj hd hs hw.1 hw.2.1 e
        exact ⟨e1.symm, e2.symm⟩)
      simp only [h, if_false]
      exact ⟨fun z => (atKey_put_other hne _ z).trans (ih.1 z), (has_put_other hne _).trans ih.2⟩

/-- A look-up with 'ok' in the map 'latest': the value's shape written out. -/
theorem wpList_look_g {P : Program} (w : World) {ops : Array Oper} {rest : List Oper} {o : Oper} {a : Act} {Q : Exit → Act → World → Prop} (hg : o.guard = none) (m x : Operand) (t : TypeId) (hop : o.op = Op.lookup t m x true)
    (k e : TypeId) (K : Keyed P k) (ht : P.underlying t = some (.map k e)) (hz : (zeroValue e).run P w = .ok (gv 0 0 0) w) (b n : Nat) (D : DataW Unit)
    (hm : a.eval m = .map (some b)) (hown : w.ownsMap P k gElem b n D) (key : Value) (l : Lit) (hx : a.eval x = key) (hkey : keyOf P k key = some l)
    (d s q : Int) (c : Bool) (hat : D.atKey l (gd 0 0 0) = gd d s q) (hc : Maps.has D l = c)
    (hK : wpList P ops Q rest (a.put o.dst (.tuple #[.agg #[.int .u32 d, .int .u32 s, .int .u64 q], .bool c])) w) :
    wpList P ops Q (o :: rest) a w := by
  refine wpList_lookup_own_ok w hg m x t hop k e K ht gElem hz (gd 0 0 0) [] (gElem_mk 0 0 0) b n D hm hown key l hx hkey ?_
  intro v ps hv
  rw [hat] at hv
  obtain ⟨d', s', q', rfl, h2⟩ := gElem_inv hv
  obtain ⟨rfl, rfl, rfl⟩ := gd_inj (Prod.mk.inj h2).1
  rw [hc]
  exact hK

end Go.Proofs.Qxb6632418a
