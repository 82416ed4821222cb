/- FnEncodeBatchSplitsAtAnyCut: the walk. -/
import Derived.Test.Qxb6632497aConv
import Derived.Test.Qxb6632497aBig
namespace Go.Proofs.Qxb6632497a
open Go.RowKit
attribute [local go_sem ↓] Go.wp_at_zero Go.wp_at_succ

theorem In.below {w w' : World} {a : Option Addr} {n : Nat} {cs : List Cm} (h : In w a n cs) (hb : Below w.heap.size w w') : In w' a n cs := by
  obtain ⟨h1, h2, h3⟩ := h
  refine ⟨h1, h2, orR h3 fun ⟨b, off, ha, hc⟩ => ⟨b, off, ha, fun i hi => ?_⟩⟩
  obtain ⟨k1, k2⟩ := hc i hi
  have hlt : b < w.heap.size := by
    have := k1.c0
    apply Nat.lt_of_not_le
    intro hle
    simp [World.cell?, Array.getElem?_eq_none hle] at this
  have hs := hb.size
  exact ⟨k1.below hb hlt, ⟨k2.k.below' hb k2.kb, k2.p.below' hb k2.pb, k2.v.below' hb k2.vb, fun h0 g hg => Nat.lt_of_lt_of_le (k2.kb h0 g hg) hs, fun h0 g hg => Nat.lt_of_lt_of_le (k2.pb h0 g hg) hs, fun h0 g hg => Nat.lt_of_lt_of_le (k2.vb h0 g hg) hs, k2.kl, k2.pl, k2.vl⟩⟩

theorem entries_append (xs ys : List PC) : entries (xs ++ ys) = entries xs ++ entries ys := by simp [entries]

/-- A part of a slice of commands. -/
theorem Cmds.take {w : World} {a : Option Addr} {n k : Nat} {cs : List Cm} (h : Cmds w a n cs) (hk : k ≤ n) : Cmds w a k (cs.take k) := by
  obtain ⟨h1, h2, h3⟩ := h
  refine ⟨by simp; omega, by omega, ?_⟩
  by_cases h0 : k = 0
  · exact Or.inl h0
  · rcases h3 with h3 | ⟨b, off, ha, hc⟩
    · omega
    · refine Or.inr ⟨b, off, ha, fun i hi => ?_⟩
      have hi' : i < cs.length := by simp at hi; omega
      rw [List.getElem_take]
      exact hc i hi'
theorem Cmds.drop {w : World} {b off n k : Nat} {cs : List Cm} (h : Cmds w (some ⟨b, off, none⟩) n cs) (hk : k ≤ n) : Cmds w (some ⟨b, off + k * 4, none⟩) (n - k) (cs.drop k) := by
  obtain ⟨h1, h2, h3⟩ := h
  refine ⟨by simp; omega, by omega, ?_⟩
  rcases h3 with h3 | ⟨b', off', ha, hc⟩
  · exact Or.inl (by omega)
  · simp at ha
    obtain ⟨rfl, rfl⟩ := ha
    refine Or.inr ⟨b, off + k * 4, rfl, fun i hi => ?_⟩
    have hi' : k + i < cs.length := by simp at hi; omega
    rw [List.getElem_drop]
    have := hc (k + i) hi'
    rw [show off + (k + i) * 4 = off + k * 4 + i * 4 by omega] at this
    exact this

set_option maxHeartbeats 4000000 in
set_option maxRecDepth 100000 in
/-- Not one command; the cut at the end. -/
theorem split_end (cs : List Cm) (a : Option Addr) (n cap : Nat) (w : World) (h : In w a n cs) (h1 : n ≠ 1) :
    Calls Try.prog 4 #[.slice a n cap, .int .i64 n] w fun e w' => e = .returned (.bool true) ∧ Below w.heap.size w w' := by
  have h1' : ((n : Int) == 1) = false := by simp; omega
  have hml := h.2.1
  unfold maxLen at hml
  go_enter Try.func4, Try.ntmps4
  go_wp2_with (first
    | (go_at_call 11; refine (zb11_any cs a n cap n w h).mono ?_; rintro e w' ⟨t, rfl, rfl, ht⟩; cases t <;> (first | (replace ht := ht rfl) | skip))
    | (go_at_call 6; refine (tb_any cs a n cap w h ht.1 ht.2).mono ?_; rintro e w1 ⟨t, rfl, hb1, hn⟩; cases t <;> (first | (replace hn := hn rfl) | skip))
    | (go_at_call 8; refine (kv_any cs a n cap w1 ((h.below hb1).cmds (by omega) ht.2) hn).mono ?_; rintro e w2 ⟨a2, rfl, hc2, hb2⟩)
    | (go_at_call 7; refine (batch_at cs a2 n n w2 hc2).mono ?_; rintro e w3 ⟨g, kw, capw, rfl, how, hb3, hg1, hg2, hk0, hk1, hkc⟩))
  rotate_left
  · -- the main way
    have hsw : Src8 w3 (some ⟨g, 0, none⟩) kw (batch (cs.map (·.pc))) := how.src
    have hc3 := hc2.below hb3
    have z1 := hb1.size
    have z2 := hb2.size
    have z3 := hb3.size
    refine (entr_any (cs.take n) a2 n n w3 (hc3.take (Nat.le_refl n))).mono ?_
    rintro e w4 ⟨aL, kL, capL, rfl, hsL, hgL, hbL⟩
    have z4 := hbL.size
    have hc4 := hc3.below hbL
    have hkL : kL ≤ 5000000000000 := by
      have h1 := hsL.1
      have h2 := entries_le _ (Cmds.enc_le (hc3.take (Nat.le_refl n)))
      have h3 := (hc3.take (Nat.le_refl n)).1
      have h4 := (hc3.take (Nat.le_refl n)).2.1
      simp only [List.length_map] at h2
      omega
    go_wp2_with fail
    refine (entr_any ([] : List Cm) a2 0 0 w4 (⟨rfl, by omega, Or.inl rfl⟩ : Cmds w4 a2 0 [])).mono ?_
    rintro e w5 ⟨aR, kR, capR, rfl, hsR, hgR, hbR⟩
    have z5 := hbR.size
    have hkR : kR ≤ 5000000000000 := by
      have h1 := hsR.1
      have h2 := entries_le _ (Cmds.enc_le (⟨rfl, by omega, Or.inl rfl⟩ : Cmds w4 a2 0 []))
      have h3 := (⟨rfl, by omega, Or.inl rfl⟩ : Cmds w4 a2 0 []).1
      have h4 := (⟨rfl, by omega, Or.inl rfl⟩ : Cmds w4 a2 0 []).2.1
      simp only [List.length_map] at h2
      omega
    have hsw5 : Src8 w5 (some ⟨g, 0, none⟩) kw (batch (cs.map (·.pc))) := (hsw.below hbL (fun g' hg' => by simp [blk] at hg'; omega)).below hbR (fun g' hg' => by simp [blk] at hg'; omega)
    have hsL5 : Src8 w5 aL kL _ := hsL.below hbR (fun g' hg' => by have := hgL g' hg'; omega)
    have hown0 := own_one w5 w5.heap.size _ 0 (Nat.le_refl _) rfl
    have hbB : Below w5.heap.size w5 (w5.alloc (.cells #[.int .u8 ((0 : UInt8).toNat)] 5)) := (Below.refl _ _).alloc (Nat.le_refl _) _
    have blw : ∀ g', blk (some (⟨g, 0, none⟩ : Addr)) = some g' → g' < w5.heap.size := fun g' hg' => by simp [blk] at hg'; omega
    have blL : ∀ g', blk aL = some g' → g' < w5.heap.size := fun g' hg' => by have := hgL g' hg'; omega
    have blR : ∀ g', blk aR = some g' → g' < w5.heap.size := fun g' hg' => (hgR g' hg').2
    have HE : Hid (batch (cs.map (·.pc)) = [0] ++ Lib.uvarint n ++ entries ((cs.take n).map (·.pc)) ++ entries (([] : List Cm).map (·.pc))) := by
      show _ = _
      rw [batch_many _ (by rw [List.length_map, ← h.1]; exact h1), List.length_map, ← h.1]
      rw [List.append_assoc, ← entries_append, ← List.map_append]
      rw [List.append_nil, List.take_of_length_le (by rw [h.1]; exact Nat.le_refl _)]
      rfl
    go_wp2_with (first
      | (go_at_call 12; refine (put_own w5.heap.size 1 1 n (by omega) _ [0] _ hown0 (by simp) (by omega)).mono ?_; rintro e w6 ⟨a6, k6, cap6, rfl, ho6, hg6⟩
         have hb6 : Below w5.heap.size w5 w6 := hbB.trans (hg6.below hown0 (by simp))
         have hk6 : k6 ≤ 20 := by have h1 := ho6.len; have h2 := Lib.uvarint_length64 (x := n) (by omega); simp at h1; omega
         have hsL6 := hsL5.below hb6 blL)
      | (at_builtin; refine wpList_app _ rfl _ _ rfl w5.heap.size a6 k6 cap6 _ rfl ho6 aL kL capL _ rfl hsL6 ?e1 hb6.size ?_; (case e1 => omega); intro a7 k7 cap7 w7 ho7 hg7
         have hb7 := hb6.trans (hg7.below ho6 hb6.size)
         have hk7 : k7 ≤ 5000000000020 := by have h1 := ho7.len; have h2 := ho6.len; have h3 := hsL.1; rw [List.length_append] at h1; omega
         have hsR7 := hsR.below hb7 blR)
      | (at_builtin; refine wpList_app _ rfl _ _ rfl w5.heap.size a7 k7 cap7 _ rfl ho7 aR kR capR _ rfl hsR7 ?e1 hb7.size ?_; (case e1 => omega); intro a8 k8 cap8 w8 ho8 hg8
         have hb8 := hb7.trans (hg8.below ho7 hb7.size)
         have hk8 : k8 ≤ 10000000000020 := by have h1 := ho8.len; have h2 := ho7.len; have h3 := hsR.1; rw [List.length_append] at h1; omega
         have hsw8 := hsw5.below hb8 blw)
      | (go_at_call 13; refine (same_any _ _ _ kw k8 capw cap8 _ _ hsw8 ho8.src (by omega) (by omega)).mono ?_; rintro e w9 ⟨he, hb9⟩
         rw [HE.out, beq_self_eq_true] at he
         subst he))
    go_ret
    exact ⟨rfl, (((hb1.trans (hb2.mono (by omega))).trans (hb3.mono (by omega))).trans (hbL.mono (by omega))).trans ((hbR.mono (by omega)).trans ((hb8.mono (by omega)).trans (hb9.mono (by have := hb8.size; omega))))⟩
  · go_ret
    exact ⟨rfl, hb1⟩
  · go_ret
    exact ⟨rfl, Below.refl _ _⟩

set_option maxHeartbeats 4000000 in
set_option maxRecDepth 100000 in
/-- Not one command; the cut ahead of the end. -/
theorem split_mid (cs : List Cm) (a : Option Addr) (n cap k : Nat) (w : World) (h : In w a n cs) (h1 : n ≠ 1) (hkn : k < n) :
    Calls Try.prog 4 #[.slice a n cap, .int .i64 k] w fun e w' => e = .returned (.bool true) ∧ Below w.heap.size w w' := by
  have h1' : ((n : Int) == 1) = false := by simp; omega
  have hml := h.2.1
  unfold maxLen at hml
  have hkn' : (k : Int) < (n : Int) := by omega
  have hne : ¬ n = k := by omega
  go_enter Try.func4, Try.ntmps4
  go_wp2_with (first
    | (go_at_call 11; refine (zb11_any cs a n cap k w h).mono ?_; rintro e w' ⟨t, rfl, rfl, ht⟩; cases t <;> (first | (replace ht := ht rfl) | skip))
    | (go_at_call 6; refine (tb_any cs a n cap w h ht.1 ht.2).mono ?_; rintro e w1 ⟨t, rfl, hb1, hn⟩; cases t <;> (first | (replace hn := hn rfl) | skip))
    | (go_at_call 8; refine (kv_any cs a n cap w1 ((h.below hb1).cmds (by omega) ht.2) hn).mono ?_; rintro e w2 ⟨a2, rfl, hc2, hb2⟩
       obtain ⟨b, off, rfl⟩ : ∃ b off, a2 = some ⟨b, off, none⟩ := by
         rcases hc2.2.2 with h0 | ⟨b, off, ha, _⟩
         · omega
         · exact ⟨b, off, ha⟩)
    | (go_at_call 7; refine (batch_at cs (some ⟨b, off, none⟩) n n w2 hc2).mono ?_; rintro e w3 ⟨g, kw, capw, rfl, how, hb3, hg1, hg2, hk0, hk1, hkc⟩))
  rotate_left
  · -- the main way
    have hsw : Src8 w3 (some ⟨g, 0, none⟩) kw (batch (cs.map (·.pc))) := how.src
    have hc3 := hc2.below hb3
    have z1 := hb1.size
    have z2 := hb2.size
    have z3 := hb3.size
    refine (entr_any (cs.take k) (some ⟨b, off, none⟩) k n w3 (hc3.take (Nat.le_of_lt hkn))).mono ?_
    rintro e w4 ⟨aL, kL, capL, rfl, hsL, hgL, hbL⟩
    have z4 := hbL.size
    have hc4 := hc3.below hbL
    have hkL : kL ≤ 5000000000000 := by
      have h1 := hsL.1
      have h2 := entries_le _ (Cmds.enc_le (hc3.take (Nat.le_of_lt hkn)))
      have h3 := (hc3.take (Nat.le_of_lt hkn)).1
      have h4 := (hc3.take (Nat.le_of_lt hkn)).2.1
      simp only [List.length_map] at h2
      omega
    go_wp2_with fail
    refine (entr_any (cs.drop k) (some ⟨b, off + k * 4, none⟩) (n - k) (n - k) w4 (hc4.drop (Nat.le_of_lt hkn))).mono ?_
    rintro e w5 ⟨aR, kR, capR, rfl, hsR, hgR, hbR⟩
    have z5 := hbR.size
    have hkR : kR ≤ 5000000000000 := by
      have h1 := hsR.1
      have h2 := entries_le _ (Cmds.enc_le (hc4.drop (Nat.le_of_lt hkn)))
      have h3 := (hc4.drop (Nat.le_of_lt hkn)).1
      have h4 := (hc4.drop (Nat.le_of_lt hkn)).2.1
      simp only [List.length_map] at h2
      omega
    have hsw5 : Src8 w5 (some ⟨g, 0, none⟩) kw (batch (cs.map (·.pc))) := (hsw.below hbL (fun g' hg' => by simp [blk] at hg'; omega)).below hbR (fun g' hg' => by simp [blk] at hg'; omega)
    have hsL5 : Src8 w5 aL kL _ := hsL.below hbR (fun g' hg' => by have := hgL g' hg'; omega)
    have hown0 := own_one w5 w5.heap.size _ 0 (Nat.le_refl _) rfl
    have hbB : Below w5.heap.size w5 (w5.alloc (.cells #[.int .u8 ((0 : UInt8).toNat)] 5)) := (Below.refl _ _).alloc (Nat.le_refl _) _
    have blw : ∀ g', blk (some (⟨g, 0, none⟩ : Addr)) = some g' → g' < w5.heap.size := fun g' hg' => by simp [blk] at hg'; omega
    have blL : ∀ g', blk aL = some g' → g' < w5.heap.size := fun g' hg' => by have := hgL g' hg'; omega
    have blR : ∀ g', blk aR = some g' → g' < w5.heap.size := fun g' hg' => (hgR g' hg').2
    have HE : Hid (batch (cs.map (·.pc)) = [0] ++ Lib.uvarint n ++ entries ((cs.take k).map (·.pc)) ++ entries ((cs.drop k).map (·.pc))) := by
      show _ = _
      rw [batch_many _ (by rw [List.length_map, ← h.1]; exact h1), List.length_map, ← h.1]
      rw [List.append_assoc, ← entries_append, ← List.map_append]
      rw [List.take_append_drop]
      rfl
    go_wp2_with (first
      | (go_at_call 12; refine (put_own w5.heap.size 1 1 n (by omega) _ [0] _ hown0 (by simp) (by omega)).mono ?_; rintro e w6 ⟨a6, k6, cap6, rfl, ho6, hg6⟩
         have hb6 : Below w5.heap.size w5 w6 := hbB.trans (hg6.below hown0 (by simp))
         have hk6 : k6 ≤ 20 := by have h1 := ho6.len; have h2 := Lib.uvarint_length64 (x := n) (by omega); simp at h1; omega
         have hsL6 := hsL5.below hb6 blL)
      | (at_builtin; refine wpList_app _ rfl _ _ rfl w5.heap.size a6 k6 cap6 _ rfl ho6 aL kL capL _ rfl hsL6 ?e1 hb6.size ?_; (case e1 => omega); intro a7 k7 cap7 w7 ho7 hg7
         have hb7 := hb6.trans (hg7.below ho6 hb6.size)
         have hk7 : k7 ≤ 5000000000020 := by have h1 := ho7.len; have h2 := ho6.len; have h3 := hsL.1; rw [List.length_append] at h1; omega
         have hsR7 := hsR.below hb7 blR)
      | (at_builtin; refine wpList_app _ rfl _ _ rfl w5.heap.size a7 k7 cap7 _ rfl ho7 aR kR capR _ rfl hsR7 ?e1 hb7.size ?_; (case e1 => omega); intro a8 k8 cap8 w8 ho8 hg8
         have hb8 := hb7.trans (hg8.below ho7 hb7.size)
         have hk8 : k8 ≤ 10000000000020 := by have h1 := ho8.len; have h2 := ho7.len; have h3 := hsR.1; rw [List.length_append] at h1; omega
         have hsw8 := hsw5.below hb8 blw)
      | (go_at_call 13; refine (same_any _ _ _ kw k8 capw cap8 _ _ hsw8 ho8.src (by omega) (by omega)).mono ?_; rintro e w9 ⟨he, hb9⟩
         rw [HE.out, beq_self_eq_true] at he
         subst he))
    go_ret
    exact ⟨rfl, (((hb1.trans (hb2.mono (by omega))).trans (hb3.mono (by omega))).trans (hbL.mono (by omega))).trans ((hbR.mono (by omega)).trans ((hb8.mono (by omega)).trans (hb9.mono (by have := hb8.size; omega))))⟩
  · go_ret
    exact ⟨rfl, hb1⟩
  · go_ret
    exact ⟨rfl, Below.refl _ _⟩

end Go.Proofs.Qxb6632497a
