/- entriesOf: the walk. -/
import Derived.Test.Qxb6632497aSame
namespace Go.Proofs.Qxb6632497a
open Go.RowKit
attribute [local go_sem ↓] Go.wp_at_zero Go.wp_at_succ

theorem entries_le (cs : List PC) (h : ∀ c ∈ cs, (enc c).length ≤ 4000000) : (entries cs).length ≤ cs.length * 4000010 := by
  induction cs with
  | nil => simp [entries]
  | cons c r ih =>
    have h1 := h c (by simp)
    have h2 := ih (fun x hx => h x (by simp [hx]))
    have h3 := Lib.uvarint_length64 (x := (enc c).length) (by omega)
    simp only [entries, List.flatMap_cons, List.length_append, List.length_cons, entry] at h2 ⊢
    omega
theorem enc_pos (c : PC) : 0 < (enc c).length := by rw [enc_len]; omega
theorem hdr_len (n : Nat) (h : n ≤ 1000000) : 2 ≤ (hdr n).length ∧ (hdr n).length ≤ 11 := by
  have h1 := Lib.uvarint_pos n
  have h2 := Lib.uvarint_length64 (x := n) (by omega)
  unfold hdr
  simp
  omega
theorem batch_bound (cs : List PC) (hm : cs.length ≤ 1000000) (h : ∀ c ∈ cs, (enc c).length ≤ 4000000) : 0 < (batch cs).length ∧ (batch cs).length ≤ 5000000000000 := by
  have he := entries_le cs h
  by_cases h1 : cs.length = 1
  · obtain ⟨c, rfl⟩ := List.length_eq_one_iff.1 h1
    have := h c (by simp)
    have := enc_pos c
    show 0 < (enc c).length ∧ (enc c).length ≤ _
    omega
  · rw [batch_many cs h1, List.length_append]
    have := hdr_len cs.length hm
    omega

/-- What is known of a slice of commands. -/
def Cmds (w : World) (a : Option Addr) (n : Nat) (cs : List Cm) : Prop := n = cs.length ∧ n ≤ 1000000 ∧ (n = 0 ∨ ∃ b off, a = some ⟨b, off, none⟩ ∧ CmdsAt w b off cs)
theorem Cmds.enc_le {w : World} {a : Option Addr} {n : Nat} {cs : List Cm} (h : Cmds w a n cs) : ∀ c ∈ cs.map (·.pc), (enc c).length ≤ 4000000 := by
  intro c hc
  obtain ⟨x, hx, rfl⟩ := List.mem_map.1 hc
  obtain ⟨hn, _, h0 | ⟨b, off, _, hcm⟩⟩ := h
  · have : cs = [] := List.eq_nil_of_length_eq_zero (by omega)
    rw [this] at hx; cases hx
  · obtain ⟨i, hi, rfl⟩ := List.getElem_of_mem hx
    exact (hcm i hi).2.enc_le
theorem Cmds.below {w w' : World} {a : Option Addr} {n : Nat} {cs : List Cm} (h : Cmds w a n cs) (hb : Below w.heap.size w w') : Cmds w' a n cs := by
  obtain ⟨hn, hm, h0 | ⟨b, off, ha, hcm⟩⟩ := h
  · exact ⟨hn, hm, Or.inl h0⟩
  · refine ⟨hn, hm, Or.inr ⟨b, off, ha, fun i hi => ?_⟩⟩
    obtain ⟨h1, h2⟩ := hcm i hi
    have hlt : b < w.heap.size := by
      have := h1.c0
      apply Nat.lt_of_not_le
      intro hle
      simp [World.cell?, Array.getElem?_eq_none hle] at this
    exact ⟨h1.below hb hlt, (h2.below hb).mono hb.size⟩

/-- A byte slice of the call's own that is not empty: its block. -/
theorem batch_at (cs : List Cm) (a : Option Addr) (n cap : Nat) (w : World) (h : Cmds w a n cs) :
    Calls Try.prog 7 #[.slice a n cap] w fun e w' => ∃ g k cap', e = .returned (.slice (some ⟨g, 0, none⟩) k cap') ∧ Own w' w.heap.size (some ⟨g, 0, none⟩) k cap' (batch (cs.map (·.pc))) ∧ Below w.heap.size w w' ∧ w.heap.size ≤ g ∧ g < w'.heap.size ∧ 0 < k ∧ k ≤ 5000000000000 ∧ k ≤ cap' := by
  refine (batch_any cs a n cap w h.1 h.2.1 h.2.2).mono ?_
  rintro e w' ⟨a', k, cap', rfl, ho, hb⟩
  have hl := ho.len
  have hbd := batch_bound (cs.map (·.pc)) (by have := h.1; have := h.2.1; simp; omega) h.enc_le
  rcases ho.2 with ⟨_, h0⟩ | ⟨g, c, cur, hv, h1, h2, h3, _⟩
  · omega
  · simp at hv
    obtain ⟨rfl, rfl⟩ := hv
    exact ⟨g, k, cap', rfl, ho, hb, h1, (Array.getElem?_eq_some_iff.1 h2).1, by omega, by omega, h3⟩

theorem own_one (w : World) (B H : Nat) (b : UInt8) (hB : B ≤ w.heap.size) (hH : w.heap.size = H) : Own (w.alloc (.cells #[.int .u8 b.toNat] 5)) B (some ⟨H, 0, none⟩) 1 1 [b] := by
  subst hH
  exact World.ownsRow_lit w #[.int .u8 b.toNat] 1 hB (by unfold maxLen; omega) rfl

set_option maxHeartbeats 2000000 in
set_option maxRecDepth 100000 in
/-- entriesOf of one command. -/
theorem entr_one (c : Cm) (a : Option Addr) (cap : Nat) (w : World) (h : Cmds w a 1 [c]) :
    Calls Try.prog 14 #[.slice a 1 cap] w fun e w' => ∃ a' k cap', e = .returned (.tuple #[.slice a' k cap', .bool true]) ∧ Src8 w' a' k (entries [c.pc]) ∧ (∀ g, blk a' = some g → w.heap.size ≤ g ∧ g < w'.heap.size) ∧ Below w.heap.size w w' := by
  go_enter Try.func14, Try.ntmps14
  go_wp2_with (first
    | (go_at_call 7; refine (batch_at [c] a 1 cap _ h).mono ?_; rintro e w1 ⟨g, k, cap1, rfl, ho, hb, hg1, hg2, hk0, hk1, hkc⟩
       have hs1 := hb.size)
    | (go_at_call 12; refine (put_own w.heap.size 0 0 k (by omega) none [] _ (own_nil _ _) hs1 (by omega)).mono ?_; rintro e w2 ⟨a2, k2, cap2, rfl, ho2, hg3⟩
       have hs2 := hg3.grown.size
       have hsrc := ho.src.grew hg3 (fun g' hg' => ⟨(ho.blk_ge hg').2, by simp [blk]⟩)
       have hk2 : k2 ≤ 10 := by have h1 := ho2.len; have h2 := Lib.uvarint_length64 (x := k) (by omega); simp at h1; omega)
    | (at_builtin; refine wpList_app _ rfl _ _ rfl w.heap.size a2 k2 cap2 _ rfl ho2 _ k cap1 _ rfl hsrc ?e1 ?e2 ?_; (case e1 => omega); (case e2 => omega); intro a3 k3 cap3 w3 ho3 hg4))
  go_ret2
  refine ⟨a3, k3, cap3, rfl, ?_, fun g' hg' => ho3.blk_ge hg', hb.trans ((hg3.below (own_nil _ _) hs1).trans (hg4.below ho2 (by omega)))⟩
  have hkl := ho.len
  have : entries [c.pc] = [] ++ Lib.uvarint k ++ batch (([c] : List Cm).map (·.pc)) := by
    have e1 : batch (([c] : List Cm).map (·.pc)) = enc c.pc := rfl
    rw [e1] at hkl ⊢
    simp [entries, entry, hkl]
  rw [this]
  exact ho3.src

/-- A part of a slice that can be read. -/
theorem Src8.part {w : World} {b off n lo hi : Nat} {bs : List UInt8} (h : Src8 w (some ⟨b, off, none⟩) n bs) (h1 : lo ≤ hi) (h2 : hi ≤ n) : Src8 w (some ⟨b, off + lo, none⟩) (hi - lo) ((bs.take hi).drop lo) := by
  obtain ⟨hn, hc⟩ := h
  refine ⟨by simp; omega, ?_⟩
  by_cases h0 : hi - lo = 0
  · exact Or.inl h0
  · rcases hc with hc | ⟨b', off', ha, hc⟩
    · omega
    · simp at ha
      obtain ⟨rfl, rfl⟩ := ha
      refine Or.inr ⟨b, off + lo, rfl, fun j u hu => ?_⟩
      have hj : j < hi - lo := by
        have := (List.getElem?_eq_some_iff.1 hu).1
        simp [Lib.byteCells] at this
        omega
      have := hc (lo + j) u (by
        rw [← hu]
        simp only [Lib.byteCells, List.getElem?_map, List.getElem?_drop, List.getElem?_take]
        rw [if_pos (by omega)])
      rw [← Nat.add_assoc] at this
      exact this

set_option maxHeartbeats 2000000 in
set_option maxRecDepth 100000 in
/-- entriesOf of none, or of two commands or more. -/
theorem entr_many (cs : List Cm) (a : Option Addr) (n cap : Nat) (w : World) (h : Cmds w a n cs) (h1 : n ≠ 1) :
    Calls Try.prog 14 #[.slice a n cap] w fun e w' => ∃ a' k cap', e = .returned (.tuple #[.slice a' k cap', .bool true]) ∧ Src8 w' a' k (entries (cs.map (·.pc))) ∧ (∀ g, blk a' = some g → w.heap.size ≤ g ∧ g < w'.heap.size) ∧ Below w.heap.size w w' := by
  have h1' : ((n : Int) == 1) = false := by simp; omega
  have hn := h.1
  have hm := h.2.1
  have HB : Hid (batch (cs.map (·.pc)) = hdr n ++ entries (cs.map (·.pc))) := by
    show _ = _
    rw [batch_many _ (by rw [List.length_map]; omega), List.length_map, hn]
  have hh := hdr_len n hm
  clear hn
  go_enter Try.func14, Try.ntmps14
  go_wp2_with (first
    | (go_at_call 7; refine (batch_at cs a n cap _ h).mono ?_; rintro e w1 ⟨g, k, cap1, rfl, ho, hb, hg1, hg2, hk0, hk1, hkc⟩
       have hs1 := hb.size
       have hown1 := own_one w1 w.heap.size _ 0 hs1 rfl)
    | (go_at_call 12; refine (put_own w.heap.size 1 1 n (by omega) _ [0] _ hown1 (by simp; omega) (by omega)).mono ?_; rintro e w2 ⟨a2, k2, cap2, rfl, ho2, hg3⟩
       have hs2 := hg3.grown.size
       simp at hs2
       have hsrc : Src8 w2 (some ⟨g, 0, none⟩) k (batch (cs.map (·.pc))) := (ho.alloc _).src.grew hg3 (fun g' hg' => by simp [blk] at hg'; subst hg'; simp [blk]; omega)
       have hl2 : k2 = (hdr n).length := ho2.len
       have HL2 : Hid (k2 = (hdr n).length) := hl2
       have hkk : k2 ≤ k := by have h1 := ho.len; rw [HB.out, List.length_append] at h1; omega
       have hk2 : k2 ≤ 11 := by omega
       have hk3 : 2 ≤ k2 := by omega
       clear hl2)
    | (go_at_call 13
       have hpre : Src8 w2 (some ⟨g, 0, none⟩) k2 (hdr n) := by
         have hp := hsrc.part (lo := 0) (hi := k2) (Nat.zero_le _) hkk
         rw [HB.out, HL2.out, List.take_left] at hp
         rw [HL2.out]
         simpa using hp
       refine (same_any _ _ _ k2 k2 cap1 cap2 (hdr n) (hdr n) hpre ho2.src (by omega) (by omega)).mono ?_; rintro e w3 ⟨he, hb3⟩
       rw [beq_self_eq_true] at he
       subst he))
  · go_ret2
    have hz : k - k2 = 0 := by omega
    refine ⟨_, _, ⟨_, rfl⟩, ?_, fun g' hg' => ?_, ?_⟩
    · have hd : entries (cs.map (·.pc)) = [] := by
        apply List.eq_nil_of_length_eq_zero
        have h1 := ho.len
        have h2 := HL2.out
        rw [HB.out, List.length_append] at h1
        omega
      rw [hd, hz]
      exact ⟨rfl, Or.inl rfl⟩
    · have hs3 := hb3.size
      simp [blk] at hg'
      omega
    · exact hb.trans ((((Below.refl _ _).alloc hs1 _).trans (hg3.below hown1 (by simp; omega))).trans (hb3.mono (by omega)))
  · go_ret2
    refine ⟨_, _, ⟨_, rfl⟩, ?_, fun g' hg' => ?_, ?_⟩
    · have hp := hsrc.part (lo := k2) (hi := k) hkk (Nat.le_refl _)
      rw [List.take_of_length_le (by have := ho.len; omega)] at hp
      have hd : (batch (cs.map (·.pc))).drop k2 = entries (cs.map (·.pc)) := by rw [HB.out, HL2.out, List.drop_left]
      rw [hd] at hp
      simpa using hp.below hb3 (fun g' hg' => by simp [blk] at hg'; omega)
    · have hs3 := hb3.size
      simp [blk] at hg'
      omega
    · exact hb.trans ((((Below.refl _ _).alloc hs1 _).trans (hg3.below hown1 (by simp; omega))).trans (hb3.mono (by omega)))

theorem entr_any (cs : List Cm) (a : Option Addr) (n cap : Nat) (w : World) (h : Cmds w a n cs) :
    Calls Try.prog 14 #[.slice a n cap] w fun e w' => ∃ a' k cap', e = .returned (.tuple #[.slice a' k cap', .bool true]) ∧ Src8 w' a' k (entries (cs.map (·.pc))) ∧ (∀ g, blk a' = some g → w.heap.size ≤ g ∧ g < w'.heap.size) ∧ Below w.heap.size w w' := by
  by_cases h1 : n = 1
  · obtain ⟨c, rfl⟩ := List.length_eq_one_iff.1 (h.1.symm.trans h1)
    subst h1
    exact entr_one c a cap w h
  · exact entr_many cs a n cap w h h1

end Go.Proofs.Qxb6632497a
