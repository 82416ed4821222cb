/- The plain law of the seat: what a log of events tells of a domain and a server. No Go in sight. -/
namespace Go.Proofs.Qxb6632418a.Logs

/-- An event: domain, server, sequence number. -/
abbrev Ev := Int × Int × Int

theorem snoc_ind {α : Type} {p : List α → Prop} (h0 : p []) (h1 : ∀ l a, p l → p (l ++ [a])) (l : List α) : p l := by
  have h : ∀ m : List α, p m.reverse := by
    intro m
    induction m with
    | nil => exact h0
    | cons a m ih => rw [List.reverse_cons]; exact h1 _ _ ih
  have := h l.reverse
  rwa [List.reverse_reverse] at this

def latest (ev : List Ev) (d : Int) : Option (Int × Int) := ev.foldl (fun o e => if e.1 = d then some e.2 else o) none
def lastSeq (ev : List Ev) (d s : Int) : Option Int := ev.foldl (fun o e => if e.1 = d ∧ e.2.1 = s then some e.2.2 else o) none
def isOther (d srv : Int) (e : Ev) : Bool := decide (e.1 = d ∧ e.2.1 ≠ srv)
def others (ev : List Ev) (d srv : Int) : List Ev := ev.filter (isOther d srv)
def second (l : List Ev) (d : Int) : Ev × Bool :=
  match l.getLast? with
  | none => ((0, 0, 0), false)
  | some o => if l.all (fun e => decide (e.2.1 = o.2.1)) then ((d, o.2.1, o.2.2), true) else ((0, 0, 0), false)
def lr (ev : List Ev) (d srv : Int) : Ev × Bool :=
  match latest ev d with
  | none => ((0, 0, 0), false)
  | some (s, q) => if s = srv then second (others ev d srv) d else ((d, s, q), true)

theorem latest_snoc (ev : List Ev) (e : Ev) (d : Int) : latest (ev ++ [e]) d = if e.1 = d then some e.2 else latest ev d := by
  simp [latest, List.foldl_append]
theorem lastSeq_snoc (ev : List Ev) (e : Ev) (d s : Int) : lastSeq (ev ++ [e]) d s = if e.1 = d ∧ e.2.1 = s then some e.2.2 else lastSeq ev d s := by
  simp [lastSeq, List.foldl_append]
theorem others_snoc (ev : List Ev) (e : Ev) (d srv : Int) : others (ev ++ [e]) d srv = others ev d srv ++ if isOther d srv e then [e] else [] := by
  simp only [others, List.filter_append, List.filter_cons, List.filter_nil]
theorem others_cons (ev : List Ev) (e : Ev) (d srv : Int) : others (e :: ev) d srv = if isOther d srv e then e :: others ev d srv else others ev d srv := by
  simp only [others, List.filter_cons]
theorem mem_others {ev : List Ev} {e : Ev} {d srv : Int} : e ∈ others ev d srv ↔ e ∈ ev ∧ e.1 = d ∧ e.2.1 ≠ srv := by
  simp [others, isOther, List.mem_filter]

theorem lastSeq_some {ev : List Ev} {d s : Int} : (∃ q, lastSeq ev d s = some q) ↔ ∃ e ∈ ev, e.1 = d ∧ e.2.1 = s := by
  induction ev using snoc_ind with
  | h0 => simp [lastSeq]
  | h1 l a ih =>
    rw [lastSeq_snoc]
    by_cases h : a.1 = d ∧ a.2.1 = s
    · rw [if_pos h]; exact ⟨fun _ => ⟨a, by simp, h⟩, fun _ => ⟨_, rfl⟩⟩
    · rw [if_neg h, ih]
      constructor
      · rintro ⟨e, he, h'⟩; exact ⟨e, by simp [he], h'⟩
      · rintro ⟨e, he, h'⟩
        rcases List.mem_append.1 he with he | he
        · exact ⟨e, he, h'⟩
        · rw [List.mem_singleton.1 he] at h'; exact absurd h' h

theorem lastSeq_of_last {ev : List Ev} {d srv : Int} {o : Ev} (h : (others ev d srv).getLast? = some o) : lastSeq ev d o.2.1 = some o.2.2 := by
  induction ev using snoc_ind with
  | h0 => simp [others] at h
  | h1 l a ih =>
    rw [others_snoc] at h
    rw [lastSeq_snoc]
    by_cases hc : isOther d srv a = true
    · rw [if_pos hc] at h
      simp at h
      subst h
      simp [isOther] at hc
      rw [if_pos ⟨hc.1, rfl⟩]
    · rw [if_neg hc, List.append_nil] at h
      have hm := mem_others.1 (List.mem_of_getLast? h)
      rw [if_neg, ih h]
      rintro ⟨h1, h2⟩
      apply hc
      simp [isOther, h1, h2, hm.2.2]

/-- The three ends of the loop over the map. -/
theorem second_one {ev : List Ev} {d srv s0 q0 : Int} (h0 : lastSeq ev d s0 = some q0) (hs : s0 ≠ srv) (hall : ∀ s q, lastSeq ev d s = some q → s ≠ srv → s = s0) : second (others ev d srv) d = ((d, s0, q0), true) := by
  have hx : ∀ e ∈ others ev d srv, e.2.1 = s0 := fun e he => by
    obtain ⟨h1, h2, h3⟩ := mem_others.1 he
    obtain ⟨q, hq⟩ := lastSeq_some.2 ⟨e, h1, h2, rfl⟩
    exact hall _ q hq h3
  unfold second
  cases hl : (others ev d srv).getLast? with
  | none =>
    obtain ⟨e, he, h1, h2⟩ := lastSeq_some.1 ⟨q0, h0⟩
    have hm : e ∈ others ev d srv := mem_others.2 ⟨he, h1, by rw [h2]; exact hs⟩
    rw [List.getLast?_eq_none_iff.1 hl] at hm
    cases hm
  | some o =>
    have ho := hx o (List.mem_of_getLast? hl)
    have hq := lastSeq_of_last hl
    rw [ho, h0] at hq
    have hq' := Option.some.inj hq
    simp only
    rw [if_pos (List.all_eq_true.2 fun e he => by simpa [ho] using hx e he), ho, hq']
theorem second_none {ev : List Ev} {d srv : Int} (hall : ∀ s q, lastSeq ev d s = some q → s = srv) : second (others ev d srv) d = ((0, 0, 0), false) := by
  have : others ev d srv = [] := by
    rw [List.eq_nil_iff_forall_not_mem]
    intro e he
    obtain ⟨h1, h2, h3⟩ := mem_others.1 he
    obtain ⟨q, hq⟩ := lastSeq_some.2 ⟨e, h1, h2, rfl⟩
    exact h3 (hall _ q hq)
  rw [this]
  rfl
theorem second_two {ev : List Ev} {d srv s0 q0 s1 q1 : Int} (h0 : lastSeq ev d s0 = some q0) (h1 : lastSeq ev d s1 = some q1) (n0 : s0 ≠ srv) (n1 : s1 ≠ srv) (hne : s0 ≠ s1) : second (others ev d srv) d = ((0, 0, 0), false) := by
  obtain ⟨e, he, k1, k2⟩ := lastSeq_some.1 ⟨q0, h0⟩
  obtain ⟨e', he', k1', k2'⟩ := lastSeq_some.1 ⟨q1, h1⟩
  have m0 : e ∈ others ev d srv := mem_others.2 ⟨he, k1, by rw [k2]; exact n0⟩
  have m1 : e' ∈ others ev d srv := mem_others.2 ⟨he', k1', by rw [k2']; exact n1⟩
  unfold second
  cases hl : (others ev d srv).getLast? with
  | none => rfl
  | some o =>
    simp only
    rw [if_neg]
    intro ha
    have ha := List.all_eq_true.1 ha
    have x0 := ha e m0
    have x1 := ha e' m1
    simp at x0 x1
    omega

/-! ### one event more -/
theorem latest_other {ev : List Ev} {d srv s q : Int} (h : latest ev d = some (s, q)) (hs : s ≠ srv) : (others ev d srv).getLast? = some (d, s, q) := by
  induction ev using snoc_ind with
  | h0 => simp [latest] at h
  | h1 l a ih =>
    obtain ⟨a0, a1, a2⟩ := a
    rw [latest_snoc] at h
    rw [others_snoc]
    by_cases hd : a0 = d
    · simp [hd] at h
      obtain ⟨rfl, rfl⟩ := h
      simp [isOther, hd, hs]
    · simp [hd] at h
      have : isOther d srv (a0, a1, a2) = false := by simp [isOther, hd]
      rw [this]
      simpa using ih h
theorem latest_none {ev : List Ev} {d srv : Int} (h : latest ev d = none) : others ev d srv = [] := by
  induction ev using snoc_ind with
  | h0 => rfl
  | h1 l a ih =>
    rw [latest_snoc] at h
    rw [others_snoc]
    by_cases hd : a.1 = d
    · simp [hd] at h
    · simp [hd] at h
      have : isOther d srv a = false := by simp [isOther, hd]
      rw [this, ih h]
      rfl
theorem second_false {l : List Ev} {d : Int} (h : (second l d).2 = false) : second l d = ((0, 0, 0), false) := by
  unfold second at h ⊢
  split
  · rfl
  · rename_i o ho
    rw [ho] at h
    simp only at h
    split
    · rename_i ha; rw [if_pos ha] at h; cases h
    · rfl
theorem more_elsewhere (ev : List Ev) (e : Ev) (d srv : Int) (h : e.1 ≠ d) : lr (ev ++ [e]) d srv = lr ev d srv := by
  have h1 : latest (ev ++ [e]) d = latest ev d := by rw [latest_snoc, if_neg h]
  have h2 : others (ev ++ [e]) d srv = others ev d srv := by
    rw [others_snoc]
    have : isOther d srv e = false := by simp [isOther, h]
    simp [this]
  unfold lr
  rw [h1, h2]
theorem more_other (ev : List Ev) (d s q srv : Int) (h : s ≠ srv) : lr (ev ++ [(d, s, q)]) d srv = ((d, s, q), true) := by
  unfold lr
  rw [latest_snoc]
  simp [h]
theorem more_self (ev : List Ev) (d q srv : Int) : lr (ev ++ [(d, srv, q)]) d srv = ((0, 0, 0), false) ∨ ((lr (ev ++ [(d, srv, q)]) d srv).2 = true ∧ lr (ev ++ [(d, srv, q)]) d srv = lr ev d srv) := by
  have h2 : others (ev ++ [(d, srv, q)]) d srv = others ev d srv := by
    rw [others_snoc]
    simp [isOther]
  have h1 : lr (ev ++ [(d, srv, q)]) d srv = second (others ev d srv) d := by
    unfold lr
    rw [latest_snoc, h2]
    simp
  rw [h1]
  cases hb : (second (others ev d srv) d).2
  · exact Or.inl (second_false hb)
  · refine Or.inr ⟨rfl, ?_⟩
    unfold lr
    cases hl : latest ev d with
    | none =>
      rw [latest_none hl] at hb
      cases hb
    | some sq =>
      obtain ⟨s, q'⟩ := sq
      simp only
      split
      · rfl
      · rename_i hs
        have ho := latest_other hl hs
        unfold second at hb ⊢
        rw [ho] at hb ⊢
        simp only at hb ⊢
        split
        · rfl
        · rename_i ha; rw [if_neg ha] at hb; cases hb

/-! ### the log as columns -/
def ev (f g h : Nat → Int) (n : Nat) : List Ev := (List.range n).map fun i => (f i, g i, h i)
theorem ev_succ (f g h : Nat → Int) (n : Nat) : ev f g h (n + 1) = ev f g h n ++ [(f n, g n, h n)] := by
  simp [ev, List.range_succ]
theorem ev_length (f g h : Nat → Int) (n : Nat) : (ev f g h n).length = n := by simp [ev]
theorem ev_drop (f g h : Nat → Int) (n k : Nat) (hk : k < n) : (ev f g h n).drop k = (f k, g k, h k) :: (ev f g h n).drop (k + 1) := by
  rw [List.drop_eq_getElem_cons (by rw [ev_length]; exact hk)]
  simp [ev]
/-- Behind place k no event of the domain: the last one is that at k, or before. -/
theorem latest_back (f g h : Nat → Int) (d : Int) (k : Nat) : ∀ n, k ≤ n → (∀ i, k ≤ i → i < n → f i ≠ d) → latest (ev f g h n) d = latest (ev f g h k) d := by
  intro n
  induction n with
  | zero => intro hk _; rw [Nat.le_zero.1 hk]
  | succ n ih =>
    intro hk hall
    by_cases e : k = n + 1
    · rw [e]
    · rw [ev_succ, latest_snoc, if_neg (hall n (by omega) (by omega))]
      exact ih (by omega) (fun i h1 h2 => hall i h1 (by omega))
theorem latest_at (f g h : Nat → Int) (d : Int) (k n : Nat) (hk : k < n) (hd : f k = d) (hall : ∀ i, k < i → i < n → f i ≠ d) : latest (ev f g h n) d = some (g k, h k) := by
  rw [latest_back f g h d (k + 1) n (by omega) (fun i h1 h2 => hall i (by omega) h2), ev_succ, latest_snoc, if_pos hd]
theorem latest_no (f g h : Nat → Int) (d : Int) (n : Nat) (hall : ∀ i, i < n → f i ≠ d) : latest (ev f g h n) d = none := by
  rw [latest_back f g h d 0 n (by omega) (fun i _ h2 => hall i h2)]
  rfl

/-- The model's second loop, over the log's tail from k on: nothing found. -/
def Found (l : List Ev) (s0 q0 d : Int) : Prop := l.getLast? = some (d, s0, q0) ∧ ∀ e ∈ l, e.2.1 = s0
theorem found_second {l : List Ev} {s0 q0 d : Int} (h : Found l s0 q0 d) : second l d = ((d, s0, q0), true) := by
  unfold second
  rw [h.1]
  simp only
  rw [if_pos (List.all_eq_true.2 fun e he => by simpa using h.2 e he)]
theorem found_cons {l : List Ev} {s0 q0 d : Int} (h : Found l s0 q0 d) (e : Ev) (he : e.2.1 = s0) : Found (e :: l) s0 q0 d := by
  refine ⟨?_, fun x hx => ?_⟩
  · rw [List.getLast?_cons, h.1]; rfl
  · rcases List.mem_cons.1 hx with rfl | hx
    · exact he
    · exact h.2 x hx
theorem found_first {l : List Ev} {s0 q0 d : Int} (h : l = []) : Found ((d, s0, q0) :: l) s0 q0 d := by
  subst h
  exact ⟨rfl, fun x hx => by simp at hx; rw [hx]⟩
/-- Somewhere ahead of the tail another server's event: refused. -/
theorem second_clash {l t : List Ev} {s0 q0 d : Int} (ht : ∃ p, l = p ++ t) (h : Found t s0 q0 d) (e : Ev) (he : e ∈ l) (hne : e.2.1 ≠ s0) : second l d = ((0, 0, 0), false) := by
  obtain ⟨p, rfl⟩ := ht
  have hg : (p ++ t).getLast? = some (d, s0, q0) := by
    rw [List.getLast?_append, h.1]; rfl
  unfold second
  rw [hg]
  simp only
  rw [if_neg]
  intro ha
  have := List.all_eq_true.1 ha e he
  simp at this
  exact hne this

end Go.Proofs.Qxb6632418a.Logs
