/- (GTIDState).LastReplicated: the walk. -/
import Derived.Test.Qxb6632418aMaps
namespace Go.Proofs.Qxb6632418a
open Go.RowKit Go.Maps Logs

/-- The answer, as a value. -/
def ansV (r : Ev × Bool) : Value := .tuple #[.agg #[.int .u32 r.1.1, .int .u32 r.1.2.1, .int .u64 r.1.2.2], .bool r.2]

/-- No event in the domain. -/
theorem lr_none (w : World) (b1 b2 n : Nat) (l : List Ev) (d srv : Int) (h : St w b1 b2 n (M1 l) (M2 l)) (hd : U32 d) (hl : latest l d = none) :
    Calls Try.prog 8 #[.agg #[.map (some b1), .map (some b2)], .int .u32 d, .int .u32 srv] w fun e w' => e = .returned (ansV ((0, 0, 0), false)) ∧ Below w.heap.size w w' := by
  have HA : Hid ((M2 l).atKey (.int .u32 d) (gd 0 0 0) = gd 0 0 0) := by have := (M2_at l d).1 (gd 0 0 0); rw [hl] at this; exact this
  have HH : Hid (Maps.has (M2 l) (.int .u32 d) = false) := by have := (M2_at l d).2; rw [hl] at this; exact this
  clear hl
  have hown := (h.latest.alloc (Obj.cells #[Value.map (some b1), Value.map (some b2)] 30)).alloc (Obj.cells #[Value.int .u32 0, Value.int .u32 0, Value.int .u64 0] 34)
  go_enter Try.func8, Try.ntmps8
  go_wp2_with (first
    | (at_lookup; refine wpList_look_g _ rfl _ _ 28 rfl 24 34 law24 Try.underlying28 (zero34 _) b2 n _ rfl hown _ _ rfl (keyOf_int_mk Try.underlying24 hd) _ _ _ _ HA.out HH.out ?_)
    | go_in)
  refine bodyPost_ret (v := ansV ((0, 0, 0), false)) (by simp [results, Try.results8, go_sem, ansV]) rfl ⟨rfl, ?_⟩
  exact (((Below.refl _ _).alloc (Nat.le_refl _) _).alloc (by simp) _).alloc (by simp; omega) _

/-- Another server logged last. -/
theorem lr_other (w : World) (b1 b2 n : Nat) (l : List Ev) (d srv s q : Int) (h : St w b1 b2 n (M1 l) (M2 l)) (hd : U32 d) (hl : latest l d = some (s, q)) (hs : (s != srv) = true) :
    Calls Try.prog 8 #[.agg #[.map (some b1), .map (some b2)], .int .u32 d, .int .u32 srv] w fun e w' => e = .returned (ansV ((d, s, q), true)) ∧ Below w.heap.size w w' := by
  have HA : Hid ((M2 l).atKey (.int .u32 d) (gd 0 0 0) = gd d s q) := by have := (M2_at l d).1 (gd 0 0 0); rw [hl] at this; exact this
  have HH : Hid (Maps.has (M2 l) (.int .u32 d) = true) := by have := (M2_at l d).2; rw [hl] at this; exact this
  clear hl
  have hown := (h.latest.alloc (Obj.cells #[Value.map (some b1), Value.map (some b2)] 30)).alloc (Obj.cells #[Value.int .u32 0, Value.int .u32 0, Value.int .u64 0] 34)
  go_enter Try.func8, Try.ntmps8
  go_wp2_with (first
    | (at_lookup; refine wpList_look_g _ rfl _ _ 28 rfl 24 34 law24 Try.underlying28 (zero34 _) b2 n _ rfl hown _ _ rfl (keyOf_int_mk Try.underlying24 hd) _ _ _ _ HA.out HH.out ?_)
    | go_in)
  refine bodyPost_ret (v := ansV ((d, s, q), true)) (by simp [results, Try.results8, go_sem, ansV]) rfl ⟨rfl, ?_⟩
  exact (((Below.refl _ _).alloc (Nat.le_refl _) _).alloc (by simp) _).alloc (by simp; omega) _

/-- The step of the loop over 'last', its shapes written out. -/
theorem wpList_next_k (w : World) {ops : Array Oper} {rest : List Oper} {o : Oper} {a : Act} {Q : Exit → Act → World → Prop} (hg : o.guard = none) (it : Operand) (hop : o.op = Op.next it false)
    (b r n : Nat) (D : DataW Unit) (left : Lit → Bool) (cnt : Nat) (hit : a.eval it = .pointer (some ⟨r, 0, none⟩)) (h : w.ranges Try.prog 42 (plainElem Try.prog 32) b r n D left cnt)
    (hDone : cnt = 0 → (∀ z, left z = false) → wpList Try.prog ops Q rest (a.put o.dst (.tuple #[.bool false])) w)
    (hMore : ∀ (x y c : Int) (w' : World) (cnt' : Nat), U32 x → U32 y → U64 c → left (kl x y) = true → (∀ zd, D.atKey (kl x y) zd = .lit (.int .u64 c)) → w'.ranges Try.prog 42 (plainElem Try.prog 32) b r n D (fun z => left z && !z.sameKey (kl x y)) cnt' → cnt' < cnt →
      w.grownBy w' (some r) → w'.heap.size = w.heap.size → (Instr.entry (.pointer (some ⟨r, 0, none⟩))).run Try.prog w' = .ok (.tuple #[.agg #[.int .u32 x, .int .u32 y], .int .u64 c]) w' → wpList Try.prog ops Q rest (a.put o.dst (.tuple #[.bool true, .agg #[.int .u32 x, .int .u32 y], .int .u64 c])) w') :
    wpList Try.prog ops Q (o :: rest) a w :=
  wpList_next_ranges w hg it hop 42 law42 (plainElem Try.prog 32) (fun x : Int × Int => .agg #[.int .u32 x.1, .int .u32 x.2]) (Value.int .u64) (fun key k hkey => by obtain ⟨d, s, rfl, _⟩ := key_inv hkey; exact ⟨(d, s), rfl⟩) (fun v y hv => by obtain ⟨c, rfl, _⟩ := plainElem_int_inv Try.underlying32 hv; exact ⟨c, rfl⟩)
    b r n D left cnt hit h hDone (fun x c k y w' cnt' hkey hlk hv hat hrg hlt hgr hsz hen => by
      obtain ⟨x1, x2⟩ := x
      obtain ⟨d, s, ex, hd, hs, rfl⟩ := key_inv hkey
      simp at ex
      obtain ⟨rfl, rfl⟩ := ex
      obtain ⟨c', ec, rfl, hwc⟩ := plainElem_int_inv Try.underlying32 hv
      cases ec
      exact hMore x1 x2 c w' cnt' hd hs hwc hlk hat hrg hlt hgr hsz hen)

theorem grown_setCell (w : World) (a : Addr) (u : Value) : w.grownBy (w.setCell a u) (some a.block) :=
  ⟨rfl, rfl, rfl, by simp [World.setCell], fun i _ hne => Below.heap_setCell w a u i (fun e => hne (by rw [e]))⟩

/-- What the loop has seen: 'left z': the entry at z is still to come. -/
def Seen (l : List Ev) (d srv : Int) (left : Lit → Bool) (fb : Bool) (o : Ev) : Prop :=
  (fb = false ∧ o = (0, 0, 0) ∧ ∀ s q, U32 s → s ≠ srv → lastSeq l d s = some q → left (kl d s) = true) ∨
  (fb = true ∧ o.1 = d ∧ o.2.1 ≠ srv ∧ U32 o.2.1 ∧ lastSeq l d o.2.1 = some o.2.2 ∧ left (kl d o.2.1) = false ∧ ∀ s q, U32 s → s ≠ srv → s ≠ o.2.1 → lastSeq l d s = some q → left (kl d s) = true)

theorem left_other {left : Lit → Bool} {d s x y : Int} (hd : U32 d) (hs : U32 s) (hx : U32 x) (hy : U32 y) (hne : ¬ (d = x ∧ s = y)) : (left (kl d s) && !(kl d s).sameKey (kl x y)) = left (kl d s) := by
  have : kl d s ≠ kl x y := fun e => hne (kl_inj hd hs hx hy e)
  rw [sameKey_ne this]
  simp
theorem left_same {left : Lit → Bool} {x y : Int} : (left (kl x y) && !(kl x y).sameKey (kl x y)) = false := by
  rw [WideAt.sameKey_self (keyLit_kl x y)]
  simp

/-- The entry is of no use. -/
theorem Seen.skip {l : List Ev} {d srv : Int} {left : Lit → Bool} {fb : Bool} {o : Ev} (h : Seen l d srv left fb o) {x y : Int} (hd : U32 d) (hx : U32 x) (hy : U32 y) (hn : x ≠ d ∨ y = srv) : Seen l d srv (fun z => left z && !z.sameKey (kl x y)) fb o := by
  have key : ∀ s, U32 s → s ≠ srv → (left (kl d s) && !(kl d s).sameKey (kl x y)) = left (kl d s) := fun s hs hne => left_other hd hs hx hy (fun e => by rcases hn with hn | hn <;> omega)
  rcases h with ⟨h1, h2, h3⟩ | ⟨h1, h2, h3, h4, h5, h6, h7⟩
  · exact Or.inl ⟨h1, h2, fun s q hs hne hq => (key s hs hne).trans (h3 s q hs hne hq)⟩
  · exact Or.inr ⟨h1, h2, h3, h4, h5, (key _ h4 h3).trans h6, fun s q hs hne hne' hq => (key s hs hne).trans (h7 s q hs hne hne' hq)⟩
/-- The first other server. -/
theorem Seen.take {l : List Ev} {d srv : Int} {left : Lit → Bool} {o : Ev} (h : Seen l d srv left false o) {y c : Int} (hd : U32 d) (hy : U32 y) (hn : y ≠ srv) (hq : lastSeq l d y = some c) : Seen l d srv (fun z => left z && !z.sameKey (kl d y)) true (d, y, c) := by
  rcases h with ⟨_, _, h3⟩ | ⟨h1, _⟩
  · exact Or.inr ⟨rfl, rfl, hn, hy, hq, left_same, fun s q hs hne hne' hq' => (left_other hd hs hd hy (fun e => hne' e.2)).trans (h3 s q hs hne hq')⟩
  · cases h1
theorem Seen.clash {l : List Ev} {d srv : Int} {left : Lit → Bool} {o : Ev} (h : Seen l d srv left true o) {y c : Int} (hn : y ≠ srv) (hq : lastSeq l d y = some c) (hl : left (kl d y) = true) : second (others l d srv) d = ((0, 0, 0), false) := by
  rcases h with ⟨h1, _⟩ | ⟨_, h2, h3, h4, h5, h6, _⟩
  · cases h1
  · refine second_two h5 hq h3 hn (fun e => ?_)
    rw [e, hl] at h6
    cases h6
theorem WfEv.server {l : List Ev} (hw : WfEv l) {d s q : Int} (h : lastSeq l d s = some q) : U32 s := by
  obtain ⟨e, he, _, rfl⟩ := lastSeq_some.1 ⟨q, h⟩
  exact (hw e he).2.1
theorem Seen.done {l : List Ev} {d srv : Int} {left : Lit → Bool} {fb : Bool} {o : Ev} (h : Seen l d srv left fb o) (hw : WfEv l) (hl : ∀ z, left z = false) : second (others l d srv) d = (o, fb) := by
  rcases h with ⟨rfl, rfl, h3⟩ | ⟨rfl, h2, h3, h4, h5, h6, h7⟩
  · refine second_none fun s q hq => ?_
    by_cases e : s = srv
    · exact e
    · have := h3 s q (hw.server hq) e hq
      rw [hl] at this
      cases this
  · obtain ⟨o0, o1, o2⟩ := o
    simp only at h2 h5
    subst h2
    refine second_one h5 h3 fun s q hq hs => ?_
    by_cases e : s = o1
    · exact e
    · have := h7 s q (hw.server hq) hs e hq
      rw [hl] at this
      cases this

/-- The call's own variables: the result's (block N + 1) and 'other' (block N + 3). -/
structure Vars (wr : World) (N : Nat) (o : Ev) : Prop where
  big : N + 1 + 1 + 1 + 1 < wr.heap.size
  r0 : ∃ v, wr.cell? ⟨N + 1, 0, none⟩ = some v
  r1 : ∃ v, wr.cell? ⟨N + 1, 1, none⟩ = some v
  r2 : ∃ v, wr.cell? ⟨N + 1, 2, none⟩ = some v
  f : ∀ i, wr.frozen? ⟨N + 1, i, none⟩ = false
  o0 : wr.cell? ⟨N + 1 + 1 + 1, 0, none⟩ = some (.int .u32 o.1)
  o1 : wr.cell? ⟨N + 1 + 1 + 1, 1, none⟩ = some (.int .u32 o.2.1)
  o2 : wr.cell? ⟨N + 1 + 1 + 1, 2, none⟩ = some (.int .u64 o.2.2)
  g : ∀ i, wr.frozen? ⟨N + 1 + 1 + 1, i, none⟩ = false

theorem Vars.grown {wr w1 : World} {N : Nat} {o : Ev} {row : Option Nat} (h : Vars wr N o) (hg : wr.grownBy w1 row) (h1 : row ≠ some (N + 1)) (h3 : row ≠ some (N + 1 + 1 + 1)) : Vars w1 N o := by
  have hb := h.big
  have k1 : w1.heap[N + 1]? = wr.heap[N + 1]? := hg.block _ (by omega) (fun e => h1 e.symm)
  have k3 : w1.heap[N + 1 + 1 + 1]? = wr.heap[N + 1 + 1 + 1]? := hg.block _ (by omega) (fun e => h3 e.symm)
  have c1 : ∀ i, w1.cell? ⟨N + 1, i, none⟩ = wr.cell? ⟨N + 1, i, none⟩ := fun i => World.cell?_of_block k1
  have c3 : ∀ i, w1.cell? ⟨N + 1 + 1 + 1, i, none⟩ = wr.cell? ⟨N + 1 + 1 + 1, i, none⟩ := fun i => World.cell?_of_block k3
  have f1 : ∀ i, w1.frozen? ⟨N + 1, i, none⟩ = wr.frozen? ⟨N + 1, i, none⟩ := fun i => World.frozen?_of_block k1
  have f3 : ∀ i, w1.frozen? ⟨N + 1 + 1 + 1, i, none⟩ = wr.frozen? ⟨N + 1 + 1 + 1, i, none⟩ := fun i => World.frozen?_of_block k3
  exact ⟨Nat.lt_of_lt_of_le hb hg.size, by rw [c1]; exact h.r0, by rw [c1]; exact h.r1, by rw [c1]; exact h.r2, fun i => by rw [f1]; exact h.f i, by rw [c3]; exact h.o0, by rw [c3]; exact h.o1, by rw [c3]; exact h.o2, fun i => by rw [f3]; exact h.g i⟩

end Go.Proofs.Qxb6632418a
