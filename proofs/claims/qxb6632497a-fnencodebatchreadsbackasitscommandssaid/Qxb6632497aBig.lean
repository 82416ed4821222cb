/- tooBig: the walk. -/
import Derived.Test.Qxb6632497aIn
namespace Go.Proofs.Qxb6632497a
open Go.RowKit
attribute [local go_sem ↓] Go.wp_at_zero Go.wp_at_succ

def Tb (n : Nat) (w : World) (e : Ending) (w' : World) : Prop := ∃ t, e = .returned (.bool t) ∧ Below w.heap.size w w' ∧ (t = false → n ≤ 65536)
theorem tb_true (n : Nat) (w w' : World) (h : Below w.heap.size w w') : Tb n w (.returned (.bool true)) w' := ⟨true, rfl, h, fun h => by cases h⟩
theorem tb_false (n : Nat) (w w' : World) (h : Below w.heap.size w w') (hn : n ≤ 65536) : Tb n w (.returned (.bool false)) w' := ⟨false, rfl, h, fun _ => hn⟩

set_option maxHeartbeats 4000000 in
set_option maxRecDepth 100000 in
theorem tb_some (cs : List Cm) (b off n cap : Nat) (w : World) (hn : n = cs.length) (h0 : 0 < n) (hm : n ≤ 1048576) (h : InAt w b off cs) (hs : ∀ c ∈ cs, Sml c) :
    Calls Try.prog 6 #[.slice (some ⟨b, off, none⟩) n cap] w (Tb n w) := by
  have hbl : b < w.heap.size := by
    have := (h 0 (by omega)).1.c0
    apply Nat.lt_of_not_le
    intro hle
    simp [World.cell?, Array.getElem?_eq_none hle] at this
  have HN : Hid (n = cs.length) := hn
  clear hn
  by_cases hbig : n ≤ 65536
  · go_enter Try.func6, Try.ntmps6
    go_wp2
    go_loopw [3, 4] (fun vn vi wr => ∃ (k : Nat) (t : Int), k ≤ n ∧ vi = .int .i64 k ∧ vn = .int .i64 t ∧ 0 ≤ t ∧ t ≤ 1048576 ∧ Below w.heap.size w wr) (fun _ vi _ => n - (intOf vi).toNat)
    case atStart => exact ⟨0, _, Nat.zero_le _, rfl, rfl, by omega, by omega, Below.refl _ _⟩
    case round =>
      obtain ⟨k, t, hk, rfl, rfl, ht0, ht1, hb⟩ := hrel
      by_cases hlt : k < n
      · have hkc : k < cs.length := by have := HN.out; omega
        obtain ⟨c0, c1, c2, c3⟩ := (h k hkc).1.below hb hbl
        obtain ⟨l1, l2, l3⟩ := hs cs[k] (List.getElem_mem hkc)
        generalize cs[k] = c at c0 c1 c2 c3 l1 l2 l3
        have i1 : (0 : Int) ≤ (k : Int) := by omega
        have i2 : (k : Int) < (n : Int) := by omega
        have q1 : IntKind.i64.wrap (80 + (c.kn : Int)) = 80 + (c.kn : Int) := wrap_small _ (by omega) (by omega)
        have q2 : IntKind.i64.wrap (80 + (c.kn : Int) + (c.pn : Int)) = 80 + (c.kn : Int) + (c.pn : Int) := wrap_small _ (by omega) (by omega)
        have q3 : IntKind.i64.wrap (80 + (c.kn : Int) + (c.pn : Int) + (c.vn : Int)) = 80 + (c.kn : Int) + (c.pn : Int) + (c.vn : Int) := wrap_small _ (by omega) (by omega)
        have q4 : IntKind.i64.wrap (t + (80 + (c.kn : Int) + (c.pn : Int) + (c.vn : Int))) = t + (80 + (c.kn : Int) + (c.pn : Int) + (c.vn : Int)) := wrap_small _ (by omega) (by omega)
        go_wp2
        go_region_held3 (fun w' => w'.cell? ⟨b, off + k * 4 + 1, none⟩ = some (.slice c.ka c.kn c.kc) ∧ w'.cell? ⟨b, off + k * 4 + 2, none⟩ = some (.slice c.pa c.pn c.pcap) ∧ w'.cell? ⟨b, off + k * 4 + 3, none⟩ = some (.slice c.va c.vn c.vc)) (simp [go_sem, c1, c2, c3]) (fail)
        go_wp2
        all_goals first
          | (go_ret; exact tb_true n w _ hb.drew)
          | (go_roundw
             case rel => exact ⟨k + 1, _, by omega, by go_num, rfl, by omega, by omega, hb.drew⟩
             case measure => simp [intOf]; omega)
      · go_wp2
        go_ret
        exact tb_false n w _ hb hbig
  · go_enter Try.func6, Try.ntmps6
    go_wp2
    go_ret
    exact tb_true n w _ (Below.refl _ _)

set_option maxHeartbeats 1000000 in
theorem tb_zero (a : Option Addr) (cap : Nat) (w : World) : Calls Try.prog 6 #[.slice a 0 cap] w (Tb 0 w) := by
  go_enter Try.func6, Try.ntmps6
  go_wp2
  refine wp_loop_rounds 1 ?_
  rw [rounds_succ]
  go_wp2
  go_ret
  exact tb_false 0 w _ (Below.refl _ _) (by omega)

theorem tb_any (cs : List Cm) (a : Option Addr) (n cap : Nat) (w : World) (h : In w a n cs) (hm : n ≤ 1048576) (hs : ∀ c ∈ cs, Sml c) :
    Calls Try.prog 6 #[.slice a n cap] w (Tb n w) := by
  obtain ⟨h1, h2, h3⟩ := h
  by_cases h0 : n = 0
  · subst h0
    exact tb_zero a cap w
  · rcases h3 with h3 | ⟨b, off, rfl, h3⟩
    · exact absurd h3 h0
    · exact tb_some cs b off n cap w h1 (by omega) hm h3 hs

end Go.Proofs.Qxb6632497a
