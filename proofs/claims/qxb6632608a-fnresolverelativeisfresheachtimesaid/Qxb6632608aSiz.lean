/- zzSizeOK: the walk. -/
import Derived.Test.Qxb6632608aBase
namespace Go.Proofs.Qxb6632608a
open Go.RowKit
attribute [local go_sem ↓] Go.wp_at_zero Go.wp_at_succ

/-- What zzSizeOK answers. -/
def Zs (ss : List Sg) (w : World) (e : Ending) (w' : World) : Prop := ∃ t, e = .returned (.bool t) ∧ w = w' ∧ (t = true → (joined ss).length ≤ 32768)
theorem zs_false (ss : List Sg) (w : World) : Zs ss w (.returned (.bool false)) w := ⟨false, rfl, rfl, fun h => by cases h⟩
theorem zs_true (ss : List Sg) (w : World) (h : (joined ss).length ≤ 32768) : Zs ss w (.returned (.bool true)) w := ⟨true, rfl, rfl, fun _ => h⟩

set_option maxHeartbeats 4000000 in
set_option maxRecDepth 100000 in
theorem zs_some (ss : List Sg) (b off n cap : Nat) (w : World) (hn : n = ss.length) (hm : n ≤ 1048576) (h : InAt w b off ss) (hs : ∀ s ∈ ss, Sml s) :
    Calls Try.prog 6 #[.slice (some ⟨b, off, none⟩) n cap] w fun e w' => Zs ss w e w' := by
  have HN : Hid (n = ss.length) := hn
  clear hn
  go_enter Try.func6, Try.ntmps6
  go_wp2
  go_loop [3, 4] (fun vn vi => ∃ (k : Nat) (t : Int), k ≤ n ∧ vi = .int .i64 k ∧ vn = .int .i64 t ∧ 0 ≤ t ∧ t ≤ 1048576 ∧ Hid (((joined (ss.take k)).length : Int) * 32 ≤ t)) (fun _ vi => n - (intOf vi).toNat)
  case atStart => exact ⟨0, _, Nat.zero_le _, rfl, rfl, by omega, by omega, hid (by simp [joined])⟩
  case round =>
    obtain ⟨k, t, hk, rfl, rfl, ht0, ht1, HT⟩ := hrel
    by_cases hlt : k < n
    · have hkc : k < ss.length := by have := HN.out; omega
      obtain ⟨c0, hin⟩ := h k hkc
      have hsm := hs ss[k] (List.getElem_mem hkc)
      have HJ : Hid ((joined (ss.take (k + 1))).length = (joined (ss.take k)).length + ss[k].n) := by
        show _ = _
        rw [joined_take_succ ss k hkc, List.length_append, ← hin.seg.1]
      generalize ss[k] = s at c0 hin HJ hsm
      obtain ⟨⟨hsl, hsa⟩, _, _⟩ := hin
      obtain ⟨l1, l2⟩ := hsm
      have HSL := hid hsl
      have i1 : (0 : Int) ≤ (k : Int) := by omega
      have i2 : (k : Int) < (n : Int) := by omega
      clear hsl
      go_wp2
      all_goals first
        | (go_ret; exact zs_false ss w)
        | skip
      go_loop [3, 5] (fun vn vj => ∃ (j : Nat) (t2 : Int), j ≤ s.n ∧ vj = .int .i64 j ∧ vn = .int .i64 t2 ∧ t + (24 + 32 * (s.n : Int)) ≤ t2 ∧ t2 ≤ 1048576) (fun _ vj => s.n - (intOf vj).toNat)
      case atStart => exact ⟨0, _, Nat.zero_le _, rfl, rfl, by omega, by omega⟩
      case round =>
        obtain ⟨j, t2, hj, rfl, rfl, hu0, hu1⟩ := hrel
        by_cases hjl : j < s.n
        · obtain ⟨sb, so, hsa1, htm⟩ := hsa.resolve_left (by omega)
          have hjt : j < s.ts.length := by have := HSL.out; omega
          rw [hsa1] at c0
          obtain ⟨d0, _, _⟩ := htm j hjt
          have lk := l2 s.ts[j] (List.getElem_mem hjt)
          generalize s.ts[j] = tm at d0 lk
          have j1 : (0 : Int) ≤ (j : Int) := by omega
          have j2 : (j : Int) < (s.n : Int) := by omega
          clear hsa1
          go_wp2
          all_goals first
            | (go_ret; exact zs_false ss w)
            | (go_round
               case rel => exact ⟨j + 1, _, by omega, by go_num, rfl, by omega, by omega⟩
               case measure => simp [intOf]; omega)
        · go_wp2
          go_round
          case rel => exact ⟨k + 1, _, by omega, by go_num, rfl, by omega, by omega, hid (by have h1 := HJ.out; have h2 := HT.out; rw [h1]; omega)⟩
          case measure => simp [intOf]; omega
    · go_wp2
      go_ret
      refine zs_true ss w ?_
      have h2 := HT.out
      rw [List.take_of_length_le (by have := HN.out; omega)] at h2
      omega

set_option maxHeartbeats 1000000 in
theorem zs_zero (a : Option Addr) (cap : Nat) (w : World) : Calls Try.prog 6 #[.slice a 0 cap] w fun e w' => Zs [] w e w' := by
  go_enter Try.func6, Try.ntmps6
  go_wp2
  refine wp_loop_rounds 1 ?_
  rw [rounds_succ]
  go_wp2
  go_ret
  exact zs_true [] w (by simp [joined])

theorem zs_any (ss : List Sg) (a : Option Addr) (n cap : Nat) (w : World) (h : In w a n ss) (hm : n ≤ 1048576) (hs : ∀ s ∈ ss, Sml s) :
    Calls Try.prog 6 #[.slice a n cap] w fun e w' => Zs ss w e w' := by
  obtain ⟨h1, h2, h3⟩ := h
  by_cases h0 : n = 0
  · have hcs : ss = [] := List.eq_nil_of_length_eq_zero (by omega)
    subst hcs
    subst h0
    exact zs_zero a cap w
  · rcases h3 with h3 | ⟨b, off, rfl, h3⟩
    · exact absurd h3 h0
    · exact zs_some ss b off n cap w h1 hm h3 hs

end Go.Proofs.Qxb6632608a
