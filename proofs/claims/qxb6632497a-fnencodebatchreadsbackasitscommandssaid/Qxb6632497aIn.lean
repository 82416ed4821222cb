/- The commands as they come in; the bounds laid by program; tooBig. -/
import Derived.Test.Qxb6632497aEntr
import Derived.BigQuiet
import Derived.Deep.QuietTactic
namespace Go.Proofs.Qxb6632497a
open Go.RowKit
attribute [local go_sem ↓] Go.wp_at_zero Go.wp_at_succ

/-- A command that came in: its fields can be read. -/
structure CmIn (w : World) (c : Cm) : Prop where
  k : Src8 w c.ka c.kn c.pc.ks
  p : Src8 w c.pa c.pn c.pc.ps
  v : Src8 w c.va c.vn c.pc.vs
  kb : 0 < c.kn → ∀ g, blk c.ka = some g → g < w.heap.size
  pb : 0 < c.pn → ∀ g, blk c.pa = some g → g < w.heap.size
  vb : 0 < c.vn → ∀ g, blk c.va = some g → g < w.heap.size
  kl : c.kn ≤ maxLen
  pl : c.pn ≤ maxLen
  vl : c.vn ≤ maxLen
def InAt (w : World) (b off : Nat) (cs : List Cm) : Prop := ∀ i (hi : i < cs.length), BoxAt w b (off + i * 4) cs[i] ∧ CmIn w cs[i]
def In (w : World) (a : Option Addr) (n : Nat) (cs : List Cm) : Prop := n = cs.length ∧ n ≤ maxLen ∧ (n = 0 ∨ ∃ b off, a = some ⟨b, off, none⟩ ∧ InAt w b off cs)
/-- Each field is no longer than 2^20. -/
def Sml (c : Cm) : Prop := c.kn ≤ 1048576 ∧ c.pn ≤ 1048576 ∧ c.vn ≤ 1048576
theorem In.cmds {w : World} {a : Option Addr} {n : Nat} {cs : List Cm} (h : In w a n cs) (hn : n ≤ 1000000) (hs : ∀ c ∈ cs, Sml c) : Cmds w a n cs := by
  obtain ⟨h1, _, h3⟩ := h
  refine ⟨h1, hn, orR h3 fun ⟨b, off, ha, hc⟩ => ⟨b, off, ha, fun i hi => ?_⟩⟩
  obtain ⟨k1, k2⟩ := hc i hi
  obtain ⟨s1, s2, s3⟩ := hs cs[i] (List.getElem_mem hi)
  exact ⟨k1, ⟨k2.k, k2.p, k2.v, k2.kb, k2.pb, k2.vb, s1, s2, s3⟩⟩

/-- What the bounds laid by program answer. -/
def Zb (n : Nat) (cs : List Cm) (w : World) (e : Ending) (w' : World) : Prop := ∃ t, e = .returned (.bool t) ∧ w = w' ∧ (t = true → n ≤ 1048576 ∧ ∀ c ∈ cs, Sml c)
theorem zb_false (n : Nat) (cs : List Cm) (w : World) : Zb n cs w (.returned (.bool false)) w := ⟨false, rfl, rfl, fun h => by cases h⟩
theorem zb_true (n : Nat) (cs : List Cm) (w : World) (h : n ≤ 1048576) (h' : ∀ c ∈ cs, Sml c) : Zb n cs w (.returned (.bool true)) w := ⟨true, rfl, rfl, fun _ => ⟨h, h'⟩⟩

set_option maxHeartbeats 4000000 in
set_option maxRecDepth 100000 in
theorem zb5_some (cs : List Cm) (b off n cap : Nat) (w : World) (hn : n = cs.length) (hm : n ≤ maxLen) (h : InAt w b off cs) :
    Calls Try.prog 5 #[.slice (some ⟨b, off, none⟩) n cap] w fun e w' => Zb n cs w e w' := by
  unfold maxLen at hm
  have HN : Hid (n = cs.length) := hn
  clear hn
  by_cases hbig : n ≤ 1048576
  · go_enter Try.func5, Try.ntmps5
    go_wp2
    go_loop [3, 4] (fun vn vi => ∃ (k : Nat) (t : Int), k ≤ n ∧ vi = .int .i64 k ∧ vn = .int .i64 t ∧ 0 ≤ t ∧ t ≤ 1048576 ∧ ∀ i (hi : i < cs.length), i < k → Sml cs[i]) (fun _ vi => n - (intOf vi).toNat)
    case atStart => exact ⟨0, _, Nat.zero_le _, rfl, rfl, by omega, by omega, fun i hi h => by omega⟩
    case round =>
      obtain ⟨k, t, hk, rfl, rfl, ht0, ht1, hall⟩ := hrel
      by_cases hlt : k < n
      · have hkc : k < cs.length := by have := HN.out; omega
        obtain ⟨⟨c0, c1, c2, c3⟩, hin⟩ := h k hkc
        have HST : Hid (Sml cs[k] → ∀ i (hi : i < cs.length), i < k + 1 → Sml cs[i]) := fun hs i hi hik => by
          by_cases e : i = k
          · subst e; exact hs
          · exact hall i hi (by omega)
        clear hall
        generalize cs[k] = c at c0 c1 c2 c3 hin HST
        have l1 := hin.kl
        have l2 := hin.pl
        have l3 := hin.vl
        unfold maxLen at l1 l2 l3
        have i1 : (0 : Int) ≤ (k : Int) := by omega
        have i2 : (k : Int) < (n : Int) := by omega
        clear hin
        go_wp2
        all_goals first
          | (go_ret; exact zb_false n cs w)
          | (go_round
             case rel => exact ⟨k + 1, _, by omega, by go_num, rfl, by omega, by omega, HST.out ⟨by omega, by omega, by omega⟩⟩
             case measure => simp [intOf]; omega)
      · go_wp2
        go_ret
        refine zb_true n cs w hbig fun c hc => ?_
        obtain ⟨i, hi, rfl⟩ := List.getElem_of_mem hc
        exact hall i hi (by have := HN.out; omega)
  · go_enter Try.func5, Try.ntmps5
    go_wp2
    go_ret
    exact zb_false n cs w

set_option maxHeartbeats 1000000 in
theorem zb5_zero (a : Option Addr) (cap : Nat) (w : World) :
    Calls Try.prog 5 #[.slice a 0 cap] w fun e w' => ∃ t, e = .returned (.bool t) ∧ w = w' := by
  go_enter Try.func5, Try.ntmps5
  go_wp2
  refine wp_loop_rounds 1 ?_
  rw [rounds_succ]
  go_wp2
  go_ret
  exact ⟨_, rfl, rfl⟩

theorem zb5_any (cs : List Cm) (a : Option Addr) (n cap : Nat) (w : World) (h : In w a n cs) :
    Calls Try.prog 5 #[.slice a n cap] w fun e w' => Zb n cs w e w' := by
  obtain ⟨h1, h2, h3⟩ := h
  by_cases h0 : n = 0
  · have hcs : cs = [] := List.eq_nil_of_length_eq_zero (by omega)
    subst hcs
    subst h0
    refine (zb5_zero a cap w).mono ?_
    rintro e w' ⟨t, rfl, rfl⟩
    exact ⟨t, rfl, rfl, fun _ => ⟨by omega, fun c hc => by cases hc⟩⟩
  · rcases h3 with h3 | ⟨b, off, rfl, h3⟩
    · exact absurd h3 h0
    · exact zb5_some cs b off n cap w h1 h2 h3

set_option maxHeartbeats 4000000 in
set_option maxRecDepth 100000 in
theorem zb11_some (cs : List Cm) (b off n cap : Nat) (kk : Int) (w : World) (hn : n = cs.length) (hm : n ≤ maxLen) (h : InAt w b off cs) :
    Calls Try.prog 11 #[.slice (some ⟨b, off, none⟩) n cap, .int .i64 kk] w fun e w' => Zb n cs w e w' := by
  unfold maxLen at hm
  have HN : Hid (n = cs.length) := hn
  clear hn
  by_cases hbig : n ≤ 1048576
  · go_enter Try.func11, Try.ntmps11
    go_wp2
    go_loop [5, 6] (fun vn vi => ∃ (k : Nat) (t : Int), k ≤ n ∧ vi = .int .i64 k ∧ vn = .int .i64 t ∧ 0 ≤ t ∧ t ≤ 1048576 ∧ ∀ i (hi : i < cs.length), i < k → Sml cs[i]) (fun _ vi => n - (intOf vi).toNat)
    case atStart => exact ⟨0, _, Nat.zero_le _, rfl, rfl, by omega, by omega, fun i hi h => by omega⟩
    case round =>
      obtain ⟨k, t, hk, rfl, rfl, ht0, ht1, hall⟩ := hrel
      by_cases hlt : k < n
      · have hkc : k < cs.length := by have := HN.out; omega
        obtain ⟨⟨c0, c1, c2, c3⟩, hin⟩ := h k hkc
        have HST : Hid (Sml cs[k] → ∀ i (hi : i < cs.length), i < k + 1 → Sml cs[i]) := fun hs i hi hik => by
          by_cases e : i = k
          · subst e; exact hs
          · exact hall i hi (by omega)
        clear hall
        generalize cs[k] = c at c0 c1 c2 c3 hin HST
        have l1 := hin.kl
        have l2 := hin.pl
        have l3 := hin.vl
        unfold maxLen at l1 l2 l3
        have i1 : (0 : Int) ≤ (k : Int) := by omega
        have i2 : (k : Int) < (n : Int) := by omega
        clear hin
        go_wp2
        all_goals first
          | (go_ret; exact zb_false n cs w)
          | (go_round
             case rel => exact ⟨k + 1, _, by omega, by go_num, rfl, by omega, by omega, HST.out ⟨by omega, by omega, by omega⟩⟩
             case measure => simp [intOf]; omega)
      · go_wp2
        go_ret
        refine zb_true n cs w hbig fun c hc => ?_
        obtain ⟨i, hi, rfl⟩ := List.getElem_of_mem hc
        exact hall i hi (by have := HN.out; omega)
  · go_enter Try.func11, Try.ntmps11
    go_wp2
    go_ret
    exact zb_false n cs w

set_option maxHeartbeats 1000000 in
theorem zb11_zero (a : Option Addr) (cap : Nat) (kk : Int) (w : World) :
    Calls Try.prog 11 #[.slice a 0 cap, .int .i64 kk] w fun e w' => ∃ t, e = .returned (.bool t) ∧ w = w' := by
  go_enter Try.func11, Try.ntmps11
  go_wp2
  refine wp_loop_rounds 1 ?_
  rw [rounds_succ]
  go_wp2
  go_ret
  exact ⟨_, rfl, rfl⟩

theorem zb11_any (cs : List Cm) (a : Option Addr) (n cap : Nat) (kk : Int) (w : World) (h : In w a n cs) :
    Calls Try.prog 11 #[.slice a n cap, .int .i64 kk] w fun e w' => Zb n cs w e w' := by
  obtain ⟨h1, h2, h3⟩ := h
  by_cases h0 : n = 0
  · have hcs : cs = [] := List.eq_nil_of_length_eq_zero (by omega)
    subst hcs
    subst h0
    refine (zb11_zero a cap kk w).mono ?_
    rintro e w' ⟨t, rfl, rfl⟩
    exact ⟨t, rfl, rfl, fun _ => ⟨by omega, fun c hc => by cases hc⟩⟩
  · rcases h3 with h3 | ⟨b, off, rfl, h3⟩
    · exact absurd h3 h0
    · exact zb11_some cs b off n cap kk w h1 h2 h3

end Go.Proofs.Qxb6632497a
