/- The bounds laid by program: the walks. -/
import Derived.Test.Qxb6632608aBase
namespace Go.Proofs.Qxb6632608a
open Go.RowKit
attribute [local go_sem ↓] Go.wp_at_zero Go.wp_at_succ

/-- What the bounds laid by program answer. -/
def Zb (n : Nat) (ss : List Sg) (w : World) (e : Ending) (w' : World) : Prop := ∃ t, e = .returned (.bool t) ∧ w = w' ∧ (t = true → n ≤ 1048576 ∧ ∀ s ∈ ss, Sml s)
theorem zb_false (n : Nat) (ss : List Sg) (w : World) : Zb n ss w (.returned (.bool false)) w := ⟨false, rfl, rfl, fun h => by cases h⟩
theorem zb_true (n : Nat) (ss : List Sg) (w : World) (h : n ≤ 1048576) (h' : ∀ s ∈ ss, Sml s) : Zb n ss w (.returned (.bool true)) w := ⟨true, rfl, rfl, fun _ => ⟨h, h'⟩⟩

set_option maxHeartbeats 4000000 in
set_option maxRecDepth 100000 in
theorem zb5_some (ss : List Sg) (b off n cap : Nat) (w : World) (hn : n = ss.length) (hm : n ≤ maxLen) (h : InAt w b off ss) :
    Calls Try.prog 5 #[.slice (some ⟨b, off, none⟩) n cap] w fun e w' => Zb n ss w e w' := by
  unfold maxLen at hm
  have HN : Hid (n = ss.length) := hn
  clear hn
  by_cases hbig : n ≤ 1048576
  · go_enter Try.func5, Try.ntmps5
    go_wp2
    go_loop [3, 4] (fun vn vi => ∃ (k : Nat) (t : Int), k ≤ n ∧ vi = .int .i64 k ∧ vn = .int .i64 t ∧ 0 ≤ t ∧ t ≤ 1048576 ∧ ∀ i (hi : i < ss.length), i < k → Sml ss[i]) (fun _ vi => n - (intOf vi).toNat)
    case atStart => exact ⟨0, _, Nat.zero_le _, rfl, rfl, by omega, by omega, fun i hi h => by omega⟩
    case round =>
      obtain ⟨k, t, hk, rfl, rfl, ht0, ht1, hall⟩ := hrel
      by_cases hlt : k < n
      · have hkc : k < ss.length := by have := HN.out; omega
        obtain ⟨c0, hin⟩ := h k hkc
        have HST : Hid (Sml ss[k] → ∀ i (hi : i < ss.length), i < k + 1 → Sml ss[i]) := fun hs i hi hik => by
          by_cases e : i = k
          · subst e; exact hs
          · exact hall i hi (by omega)
        clear hall
        generalize ss[k] = s at c0 hin HST
        obtain ⟨⟨hsl, hsa⟩, l1, l2⟩ := hin
        have HSL := hid hsl
        unfold maxLen at l1 l2
        have i1 : (0 : Int) ≤ (k : Int) := by omega
        have i2 : (k : Int) < (n : Int) := by omega
        clear hsl
        go_wp2
        all_goals first
          | (go_ret; exact zb_false n ss w)
          | skip
        go_loop [3, 5] (fun vn vj => ∃ (j : Nat) (t2 : Int), j ≤ s.n ∧ vj = .int .i64 j ∧ vn = .int .i64 t2 ∧ 0 ≤ t2 ∧ t2 ≤ 1048576 ∧ ∀ i (hi : i < s.ts.length), i < j → s.ts[i].key.size ≤ 1048576) (fun _ vj => s.n - (intOf vj).toNat)
        case atStart => exact ⟨0, _, Nat.zero_le _, rfl, rfl, by omega, by omega, fun i hi h => by omega⟩
        case round =>
          obtain ⟨j, t2, hj, rfl, rfl, hu0, hu1, hkeys⟩ := hrel
          by_cases hjl : j < s.n
          · obtain ⟨sb, so, hsa1, htm⟩ := hsa.resolve_left (by omega)
            have hjt : j < s.ts.length := by have := HSL.out; omega
            rw [hsa1] at c0
            obtain ⟨d0, _, _⟩ := htm j hjt
            have lk := l2 s.ts[j] (List.getElem_mem hjt)
            have HKT : Hid (s.ts[j].key.size ≤ 1048576 → ∀ i (hi : i < s.ts.length), i < j + 1 → s.ts[i].key.size ≤ 1048576) := fun hs i hi hik => by
              by_cases e : i = j
              · subst e; exact hs
              · exact hkeys i hi (by omega)
            clear hkeys
            generalize s.ts[j] = tm at d0 lk HKT
            have j1 : (0 : Int) ≤ (j : Int) := by omega
            have j2 : (j : Int) < (s.n : Int) := by omega
            clear hsa1
            go_wp2
            all_goals first
              | (go_ret; exact zb_false n ss w)
              | (go_round
                 case rel => exact ⟨j + 1, _, by omega, by go_num, rfl, by omega, by omega, HKT.out (by omega)⟩
                 case measure => simp [intOf]; omega)
          · go_wp2
            go_round
            case rel =>
              refine ⟨k + 1, _, by omega, by go_num, rfl, by omega, by omega, HST.out ⟨by omega, fun t ht => ?_⟩⟩
              obtain ⟨i, hi, rfl⟩ := List.getElem_of_mem ht
              exact hkeys i hi (by have := HSL.out; omega)
            case measure => simp [intOf]; omega
      · go_wp2
        go_ret
        refine zb_true n ss w hbig fun c hc => ?_
        obtain ⟨i, hi, rfl⟩ := List.getElem_of_mem hc
        exact hall i hi (by have := HN.out; omega)
  · go_enter Try.func5, Try.ntmps5
    go_wp2
    go_ret
    exact zb_false n ss w

set_option maxHeartbeats 1000000 in
theorem zb5_zero (a : Option Addr) (cap : Nat) (w : World) :
    Calls Try.prog 5 #[.slice a 0 cap] w fun e w' => ∃ t, e = .returned (.bool t) ∧ w = w' := by
  go_enter Try.func5, Try.ntmps5
  go_wp2
  refine wp_loop_rounds 1 ?_
  rw [rounds_succ]
  go_wp2
  go_ret
  exact ⟨_, rfl, rfl⟩

theorem zb5_any (ss : List Sg) (a : Option Addr) (n cap : Nat) (w : World) (h : In w a n ss) :
    Calls Try.prog 5 #[.slice a n cap] w fun e w' => Zb n ss w e w' := by
  obtain ⟨h1, h2, h3⟩ := h
  by_cases h0 : n = 0
  · have hcs : ss = [] := List.eq_nil_of_length_eq_zero (by omega)
    subst hcs
    subst h0
    refine (zb5_zero a cap w).mono ?_
    rintro e w' ⟨t, rfl, rfl⟩
    exact ⟨t, rfl, rfl, fun _ => ⟨by omega, fun c hc => by cases hc⟩⟩
  · rcases h3 with h3 | ⟨b, off, rfl, h3⟩
    · exact absurd h3 h0
    · exact zb5_some ss b off n cap w h1 h2 h3

set_option maxHeartbeats 4000000 in
set_option maxRecDepth 100000 in
theorem zb10_some (ss : List Sg) (b off n cap : Nat) (w : World) (hn : n = ss.length) (hm : n ≤ maxLen) (h : InAt w b off ss) :
    Calls Try.prog 10 #[.slice (some ⟨b, off, none⟩) n cap] w fun e w' => Zb n ss w e w' := by
  unfold maxLen at hm
  have HN : Hid (n = ss.length) := hn
  clear hn
  by_cases hbig : n ≤ 1048576
  · go_enter Try.func10, Try.ntmps10
    go_wp2
    go_loop [3, 4] (fun vn vi => ∃ (k : Nat) (t : Int), k ≤ n ∧ vi = .int .i64 k ∧ vn = .int .i64 t ∧ 0 ≤ t ∧ t ≤ 1048576 ∧ ∀ i (hi : i < ss.length), i < k → Sml ss[i]) (fun _ vi => n - (intOf vi).toNat)
    case atStart => exact ⟨0, _, Nat.zero_le _, rfl, rfl, by omega, by omega, fun i hi h => by omega⟩
    case round =>
      obtain ⟨k, t, hk, rfl, rfl, ht0, ht1, hall⟩ := hrel
      by_cases hlt : k < n
      · have hkc : k < ss.length := by have := HN.out; omega
        obtain ⟨c0, hin⟩ := h k hkc
        have HST : Hid (Sml ss[k] → ∀ i (hi : i < ss.length), i < k + 1 → Sml ss[i]) := fun hs i hi hik => by
          by_cases e : i = k
          · subst e; exact hs
          · exact hall i hi (by omega)
        clear hall
        generalize ss[k] = s at c0 hin HST
        obtain ⟨⟨hsl, hsa⟩, l1, l2⟩ := hin
        have HSL := hid hsl
        unfold maxLen at l1 l2
        have i1 : (0 : Int) ≤ (k : Int) := by omega
        have i2 : (k : Int) < (n : Int) := by omega
        clear hsl
        go_wp2
        all_goals first
          | (go_ret; exact zb_false n ss w)
          | skip
        go_loop [3, 5] (fun vn vj => ∃ (j : Nat) (t2 : Int), j ≤ s.n ∧ vj = .int .i64 j ∧ vn = .int .i64 t2 ∧ 0 ≤ t2 ∧ t2 ≤ 1048576 ∧ ∀ i (hi : i < s.ts.length), i < j → s.ts[i].key.size ≤ 1048576) (fun _ vj => s.n - (intOf vj).toNat)
        case atStart => exact ⟨0, _, Nat.zero_le _, rfl, rfl, by omega, by omega, fun i hi h => by omega⟩
        case round =>
          obtain ⟨j, t2, hj, rfl, rfl, hu0, hu1, hkeys⟩ := hrel
          by_cases hjl : j < s.n
          · obtain ⟨sb, so, hsa1, htm⟩ := hsa.resolve_left (by omega)
            have hjt : j < s.ts.length := by have := HSL.out; omega
            rw [hsa1] at c0
            obtain ⟨d0, _, _⟩ := htm j hjt
            have lk := l2 s.ts[j] (List.getElem_mem hjt)
            have HKT : Hid (s.ts[j].key.size ≤ 1048576 → ∀ i (hi : i < s.ts.length), i < j + 1 → s.ts[i].key.size ≤ 1048576) := fun hs i hi hik => by
              by_cases e : i = j
              · subst e; exact hs
              · exact hkeys i hi (by omega)
            clear hkeys
            generalize s.ts[j] = tm at d0 lk HKT
            have j1 : (0 : Int) ≤ (j : Int) := by omega
            have j2 : (j : Int) < (s.n : Int) := by omega
            clear hsa1
            go_wp2
            all_goals first
              | (go_ret; exact zb_false n ss w)
              | (go_round
                 case rel => exact ⟨j + 1, _, by omega, by go_num, rfl, by omega, by omega, HKT.out (by omega)⟩
                 case measure => simp [intOf]; omega)
          · go_wp2
            go_round
            case rel =>
              refine ⟨k + 1, _, by omega, by go_num, rfl, by omega, by omega, HST.out ⟨by omega, fun t ht => ?_⟩⟩
              obtain ⟨i, hi, rfl⟩ := List.getElem_of_mem ht
              exact hkeys i hi (by have := HSL.out; omega)
            case measure => simp [intOf]; omega
      · go_wp2
        go_ret
        refine zb_true n ss w hbig fun c hc => ?_
        obtain ⟨i, hi, rfl⟩ := List.getElem_of_mem hc
        exact hall i hi (by have := HN.out; omega)
  · go_enter Try.func10, Try.ntmps10
    go_wp2
    go_ret
    exact zb_false n ss w

set_option maxHeartbeats 1000000 in
theorem zb10_zero (a : Option Addr) (cap : Nat) (w : World) :
    Calls Try.prog 10 #[.slice a 0 cap] w fun e w' => ∃ t, e = .returned (.bool t) ∧ w = w' := by
  go_enter Try.func10, Try.ntmps10
  go_wp2
  refine wp_loop_rounds 1 ?_
  rw [rounds_succ]
  go_wp2
  go_ret
  exact ⟨_, rfl, rfl⟩

theorem zb10_any (ss : List Sg) (a : Option Addr) (n cap : Nat) (w : World) (h : In w a n ss) :
    Calls Try.prog 10 #[.slice a n cap] w fun e w' => Zb n ss w e w' := by
  obtain ⟨h1, h2, h3⟩ := h
  by_cases h0 : n = 0
  · have hcs : ss = [] := List.eq_nil_of_length_eq_zero (by omega)
    subst hcs
    subst h0
    refine (zb10_zero a cap w).mono ?_
    rintro e w' ⟨t, rfl, rfl⟩
    exact ⟨t, rfl, rfl, fun _ => ⟨by omega, fun c hc => by cases hc⟩⟩
  · rcases h3 with h3 | ⟨b, off, rfl, h3⟩
    · exact absurd h3 h0
    · exact zb10_some ss b off n cap w h1 h2 h3

end Go.Proofs.Qxb6632608a
