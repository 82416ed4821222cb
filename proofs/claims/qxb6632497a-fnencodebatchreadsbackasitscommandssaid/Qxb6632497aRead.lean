/- readUvarint: the walk. -/
import Derived.Test.Qxb6632497aSame
import Derived.Lib.VarintBits
namespace Go.Proofs.Qxb6632497a
open Go.RowKit Go.Lib

/-- At place p of bs stands the uvarint of x. -/
def UvAt (bs : List UInt8) (p x : Nat) : Prop := ∃ rest, bs.drop p = Lib.uvarint x ++ rest
theorem UvAt.le {bs : List UInt8} {p x : Nat} (h : UvAt bs p x) : p + (Lib.uvarint x).length ≤ bs.length := by
  obtain ⟨rest, h⟩ := h
  have h1 := congrArg List.length h
  have h2 := Lib.uvarint_pos x
  simp at h1
  omega
theorem UvAt.small {bs : List UInt8} {p y : Nat} (h : UvAt bs p y) (hy : y < 128) : ∃ hp : p < bs.length, bs[p].toNat = y := by
  have hl := h.le
  obtain ⟨rest, h⟩ := h
  rw [Lib.uvarint_small hy] at h hl
  simp at hl
  refine ⟨by omega, ?_⟩
  rw [List.drop_eq_getElem_cons (by omega)] at h
  simp only [List.singleton_append, List.cons.injEq] at h
  rw [h.1]
  exact Lib.toUInt8_toNat (by omega)
theorem UvAt.big {bs : List UInt8} {p y : Nat} (h : UvAt bs p y) (hy : 128 ≤ y) : (∃ hp : p < bs.length, bs[p].toNat = y % 128 + 128) ∧ UvAt bs (p + 1) (y / 128) := by
  have hl := h.le
  have hp := Lib.uvarint_pos y
  obtain ⟨rest, h⟩ := h
  rw [Lib.uvarint_big hy] at h
  rw [List.drop_eq_getElem_cons (by omega)] at h
  simp only [List.cons_append, List.cons.injEq] at h
  exact ⟨⟨by omega, by rw [h.1]; exact Lib.toUInt8_toNat (by omega)⟩, ⟨rest, h.2⟩⟩


set_option maxHeartbeats 32000000 in
set_option maxRecDepth 100000 in
/-- readUvarint where the uvarint of x stands. -/
theorem rd_any (g o n c p x : Nat) (bs : List UInt8) (w : World) (hn : n = bs.length) (hm : n ≤ 140737488355328) (hcell : ∀ j (hj : j < bs.length), w.cell? ⟨g, o + j, none⟩ = some (.int .u8 bs[j].toNat)) (h : UvAt bs p x) (hx : x < 100000000000000) :
    Calls Try.prog 10 #[.slice (some ⟨g, o, none⟩) n c, .int .i64 p] w fun e w' => e = .returned (.tuple #[.int .u64 x, .int .i64 ((p + (Lib.uvarint x).length : Nat) : Int), .bool true]) ∧ w = w' := by
  have HN : Hid (n = bs.length) := hn
  clear hn
  have hle := h.le
  have hlx := Lib.uvarint_length64 (x := x) (by omega)
  go_enter Try.func10, Try.ntmps10
  go_wp2
  go_loop [7, 8, 9] (fun vx vs vi => ∃ k acc y : Nat, vi = .int .i64 k ∧ vs = .int .u64 ((7 * k : Nat) : Int) ∧ vx = .int .u64 acc ∧ k ≤ 6 ∧ acc < 128 ^ k ∧ x = acc + y * 128 ^ k ∧ (k = 0 ∨ 0 < y) ∧ UvAt bs (p + k) y ∧ (Lib.uvarint x).length = k + (Lib.uvarint y).length)
    (fun _ _ vi => 10 - (intOf vi).toNat)
  case atStart => exact ⟨0, 0, x, rfl, rfl, rfl, by omega, by decide, by simp, Or.inl rfl, h, by omega⟩
  case round =>
    obtain ⟨k, acc, y, rfl, rfl, rfl, hk, hacc, hxy, hy0, hat, hlen⟩ := hrel
    have hyp := Lib.uvarint_pos y
    have hle2 := hat.le
    have hks : k = 0 ∨ k = 1 ∨ k = 2 ∨ k = 3 ∨ k = 4 ∨ k = 5 ∨ k = 6 := by omega
    have hnn := HN.out
    by_cases h128 : y < 128
    · obtain ⟨hp, hb⟩ := hat.small h128
      have hc := hcell (p + k) hp
      rw [hb] at hc
      have HL : Hid ((Lib.uvarint x).length = k + 1) := by
        show _ = _
        rw [hlen, Lib.uvarint_small h128]; rfl
      have hpn : p + k < n := by omega
      clear hcell hat hlen hb hp hnn hle hle2 hlx hyp h HN
      rcases hks with rfl | rfl | rfl | rfl | rfl | rfl | rfl
      · have hacc' : acc < 1 := by simpa using hacc
        have hxx : x = acc + y * 1 := by simpa using hxy
        obtain rfl : acc = 0 := by omega
        have hc0 : w.cell? ⟨g, o + p, none⟩ = some (.int .u8 (y : Int)) := hc
        have hor : bits .or .u64 0 (y : Int) = (y : Int) := by
          rw [u64_orv0 _ _ (by omega) (by omega) (by omega) (by omega) (by omega)]
          omega
        have i1 : (p : Int) < (n : Int) := by omega
        have HX : Hid (x = y) := by show x = y; omega
        clear hxx hxy hacc
        go_wp2
        go_ret3
        exact ⟨by rw [HL.out, HX.out]; rfl, rfl⟩
      · have hacc' : acc < 128 := by simpa using hacc
        have hxx : x = acc + y * 128 := by simpa using hxy
        have hy1 : ((y : Int) == 0) = false := by simp; omega
        have hor : bits .or .u64 (acc : Int) ((y : Int) * 128) = ((acc + y * 128 : Nat) : Int) := by
          rw [u64_orv7 _ _ (by omega) (by omega) (by omega) (by omega) (by omega)]
          omega
        have i1 : (p : Int) + 1 < (n : Int) := by omega
        have HX : Hid (x = acc + y * 128) := hxx
        clear hxx hxy hacc
        go_wp2
        go_ret3
        exact ⟨by rw [HL.out, HX.out]; rfl, rfl⟩
      · have hacc' : acc < 16384 := by simpa using hacc
        have hxx : x = acc + y * 16384 := by simpa using hxy
        have hy1 : ((y : Int) == 0) = false := by simp; omega
        have hor : bits .or .u64 (acc : Int) ((y : Int) * 16384) = ((acc + y * 16384 : Nat) : Int) := by
          rw [u64_orv14 _ _ (by omega) (by omega) (by omega) (by omega) (by omega)]
          omega
        have i1 : (p : Int) + 2 < (n : Int) := by omega
        have HX : Hid (x = acc + y * 16384) := hxx
        clear hxx hxy hacc
        go_wp2
        go_ret3
        exact ⟨by rw [HL.out, HX.out]; rfl, rfl⟩
      · have hacc' : acc < 2097152 := by simpa using hacc
        have hxx : x = acc + y * 2097152 := by simpa using hxy
        have hy1 : ((y : Int) == 0) = false := by simp; omega
        have hor : bits .or .u64 (acc : Int) ((y : Int) * 2097152) = ((acc + y * 2097152 : Nat) : Int) := by
          rw [u64_orv21 _ _ (by omega) (by omega) (by omega) (by omega) (by omega)]
          omega
        have i1 : (p : Int) + 3 < (n : Int) := by omega
        have HX : Hid (x = acc + y * 2097152) := hxx
        clear hxx hxy hacc
        go_wp2
        go_ret3
        exact ⟨by rw [HL.out, HX.out]; rfl, rfl⟩
      · have hacc' : acc < 268435456 := by simpa using hacc
        have hxx : x = acc + y * 268435456 := by simpa using hxy
        have hy1 : ((y : Int) == 0) = false := by simp; omega
        have hor : bits .or .u64 (acc : Int) ((y : Int) * 268435456) = ((acc + y * 268435456 : Nat) : Int) := by
          rw [u64_orv28 _ _ (by omega) (by omega) (by omega) (by omega) (by omega)]
          omega
        have i1 : (p : Int) + 4 < (n : Int) := by omega
        have HX : Hid (x = acc + y * 268435456) := hxx
        clear hxx hxy hacc
        go_wp2
        go_ret3
        exact ⟨by rw [HL.out, HX.out]; rfl, rfl⟩
      · have hacc' : acc < 34359738368 := by simpa using hacc
        have hxx : x = acc + y * 34359738368 := by simpa using hxy
        have hy1 : ((y : Int) == 0) = false := by simp; omega
        have hor : bits .or .u64 (acc : Int) ((y : Int) * 34359738368) = ((acc + y * 34359738368 : Nat) : Int) := by
          rw [u64_orv35 _ _ (by omega) (by omega) (by omega) (by omega) (by omega)]
          omega
        have i1 : (p : Int) + 5 < (n : Int) := by omega
        have HX : Hid (x = acc + y * 34359738368) := hxx
        clear hxx hxy hacc
        go_wp2
        go_ret3
        exact ⟨by rw [HL.out, HX.out]; rfl, rfl⟩
      · have hacc' : acc < 4398046511104 := by simpa using hacc
        have hxx : x = acc + y * 4398046511104 := by simpa using hxy
        have hy1 : ((y : Int) == 0) = false := by simp; omega
        have hor : bits .or .u64 (acc : Int) ((y : Int) * 4398046511104) = ((acc + y * 4398046511104 : Nat) : Int) := by
          rw [u64_orv42 _ _ (by omega) (by omega) (by omega) (by omega) (by omega)]
          omega
        have i1 : (p : Int) + 6 < (n : Int) := by omega
        have HX : Hid (x = acc + y * 4398046511104) := hxx
        clear hxx hxy hacc
        go_wp2
        go_ret3
        exact ⟨by rw [HL.out, HX.out]; rfl, rfl⟩
    · obtain ⟨⟨hp, hb⟩, hat2⟩ := hat.big (by omega)
      have hc := hcell (p + k) hp
      rw [hb] at hc
      have HL : Hid ((Lib.uvarint x).length = (k + 1) + (Lib.uvarint (y / 128)).length) := by
        show _ = _
        rw [hlen, Lib.uvarint_big (by omega), List.length_cons]; omega
      have hpn : p + k < n := by omega
      have HA : Hid (UvAt bs (p + (k + 1)) (y / 128)) := hat2
      clear hcell hat hlen hb hp hnn hle hle2 hlx hyp h HN hat2
      rcases hks with rfl | rfl | rfl | rfl | rfl | rfl | rfl
      · have hacc' : acc < 1 := by simpa using hacc
        have hxx : x = acc + y * 1 := by simpa using hxy
        obtain rfl : acc = 0 := by omega
        have hc0 : w.cell? ⟨g, o + p, none⟩ = some (.int .u8 ((y % 128 + 128 : Nat) : Int)) := hc
        have hv : bits .or .u64 0 (IntKind.u64.wrap (IntKind.u64.wrap (bits .and .u8 ((y % 128 + 128 : Nat) : Int) 127))) = ((y % 128 : Nat) : Int) := by
          simp (disch := omega) only [u8_and127, u64_wrap_id, u64_orv0]
          omega
        have i1 : (p : Int) < (n : Int) := by omega
        have HX : Hid (x = y % 128 + y / 128 * 128 ^ 1) := by
          show x = _
          have e2 : (128 : Nat) ^ 1 = 128 := by decide
          omega
        have HC : Hid (y % 128 < 128 ^ 1) := by
          show _ < _
          have e2 : (128 : Nat) ^ 1 = 128 := by decide
          omega
        clear hxx hxy hacc
        go_wp2
        go_round
        case rel => exact ⟨1, y % 128, y / 128, rfl, rfl, (by first | rfl | (congr 1; done) | (congr 1; omega)), by omega, HC.out, HX.out, Or.inr (by omega), HA.out, HL.out⟩
        case measure => simp [intOf]
      · have hacc' : acc < 128 := by simpa using hacc
        have hxx : x = acc + y * 128 := by simpa using hxy
        have hv : bits .or .u64 (acc : Int) (IntKind.u64.wrap (IntKind.u64.wrap (bits .and .u8 ((y % 128 + 128 : Nat) : Int) 127) * 128)) = ((acc + y % 128 * 128 : Nat) : Int) := by
          simp (disch := omega) only [u8_and127, u64_wrap_id, u64_orv7]
          omega
        have i1 : (p : Int) + 1 < (n : Int) := by omega
        have HX : Hid (x = acc + y % 128 * 128 + y / 128 * 128 ^ 2) := by
          show x = _
          have e2 : (128 : Nat) ^ 2 = 16384 := by decide
          omega
        have HC : Hid (acc + y % 128 * 128 < 128 ^ 2) := by
          show _ < _
          have e2 : (128 : Nat) ^ 2 = 16384 := by decide
          omega
        clear hxx hxy hacc
        go_wp2
        go_round
        case rel => exact ⟨2, acc + y % 128 * 128, y / 128, rfl, rfl, (by first | rfl | (congr 1; done) | (congr 1; omega)), by omega, HC.out, HX.out, Or.inr (by omega), HA.out, HL.out⟩
        case measure => simp [intOf]
      · have hacc' : acc < 16384 := by simpa using hacc
        have hxx : x = acc + y * 16384 := by simpa using hxy
        have hv : bits .or .u64 (acc : Int) (IntKind.u64.wrap (IntKind.u64.wrap (bits .and .u8 ((y % 128 + 128 : Nat) : Int) 127) * 16384)) = ((acc + y % 128 * 16384 : Nat) : Int) := by
          simp (disch := omega) only [u8_and127, u64_wrap_id, u64_orv14]
          omega
        have i1 : (p : Int) + 2 < (n : Int) := by omega
        have HX : Hid (x = acc + y % 128 * 16384 + y / 128 * 128 ^ 3) := by
          show x = _
          have e2 : (128 : Nat) ^ 3 = 2097152 := by decide
          omega
        have HC : Hid (acc + y % 128 * 16384 < 128 ^ 3) := by
          show _ < _
          have e2 : (128 : Nat) ^ 3 = 2097152 := by decide
          omega
        clear hxx hxy hacc
        go_wp2
        go_round
        case rel => exact ⟨3, acc + y % 128 * 16384, y / 128, rfl, rfl, (by first | rfl | (congr 1; done) | (congr 1; omega)), by omega, HC.out, HX.out, Or.inr (by omega), HA.out, HL.out⟩
        case measure => simp [intOf]
      · have hacc' : acc < 2097152 := by simpa using hacc
        have hxx : x = acc + y * 2097152 := by simpa using hxy
        have hv : bits .or .u64 (acc : Int) (IntKind.u64.wrap (IntKind.u64.wrap (bits .and .u8 ((y % 128 + 128 : Nat) : Int) 127) * 2097152)) = ((acc + y % 128 * 2097152 : Nat) : Int) := by
          simp (disch := omega) only [u8_and127, u64_wrap_id, u64_orv21]
          omega
        have i1 : (p : Int) + 3 < (n : Int) := by omega
        have HX : Hid (x = acc + y % 128 * 2097152 + y / 128 * 128 ^ 4) := by
          show x = _
          have e2 : (128 : Nat) ^ 4 = 268435456 := by decide
          omega
        have HC : Hid (acc + y % 128 * 2097152 < 128 ^ 4) := by
          show _ < _
          have e2 : (128 : Nat) ^ 4 = 268435456 := by decide
          omega
        clear hxx hxy hacc
        go_wp2
        go_round
        case rel => exact ⟨4, acc + y % 128 * 2097152, y / 128, rfl, rfl, (by first | rfl | (congr 1; done) | (congr 1; omega)), by omega, HC.out, HX.out, Or.inr (by omega), HA.out, HL.out⟩
        case measure => simp [intOf]
      · have hacc' : acc < 268435456 := by simpa using hacc
        have hxx : x = acc + y * 268435456 := by simpa using hxy
        have hv : bits .or .u64 (acc : Int) (IntKind.u64.wrap (IntKind.u64.wrap (bits .and .u8 ((y % 128 + 128 : Nat) : Int) 127) * 268435456)) = ((acc + y % 128 * 268435456 : Nat) : Int) := by
          simp (disch := omega) only [u8_and127, u64_wrap_id, u64_orv28]
          omega
        have i1 : (p : Int) + 4 < (n : Int) := by omega
        have HX : Hid (x = acc + y % 128 * 268435456 + y / 128 * 128 ^ 5) := by
          show x = _
          have e2 : (128 : Nat) ^ 5 = 34359738368 := by decide
          omega
        have HC : Hid (acc + y % 128 * 268435456 < 128 ^ 5) := by
          show _ < _
          have e2 : (128 : Nat) ^ 5 = 34359738368 := by decide
          omega
        clear hxx hxy hacc
        go_wp2
        go_round
        case rel => exact ⟨5, acc + y % 128 * 268435456, y / 128, rfl, rfl, (by first | rfl | (congr 1; done) | (congr 1; omega)), by omega, HC.out, HX.out, Or.inr (by omega), HA.out, HL.out⟩
        case measure => simp [intOf]
      · have hacc' : acc < 34359738368 := by simpa using hacc
        have hxx : x = acc + y * 34359738368 := by simpa using hxy
        have hv : bits .or .u64 (acc : Int) (IntKind.u64.wrap (IntKind.u64.wrap (bits .and .u8 ((y % 128 + 128 : Nat) : Int) 127) * 34359738368)) = ((acc + y % 128 * 34359738368 : Nat) : Int) := by
          simp (disch := omega) only [u8_and127, u64_wrap_id, u64_orv35]
          omega
        have i1 : (p : Int) + 5 < (n : Int) := by omega
        have HX : Hid (x = acc + y % 128 * 34359738368 + y / 128 * 128 ^ 6) := by
          show x = _
          have e2 : (128 : Nat) ^ 6 = 4398046511104 := by decide
          omega
        have HC : Hid (acc + y % 128 * 34359738368 < 128 ^ 6) := by
          show _ < _
          have e2 : (128 : Nat) ^ 6 = 4398046511104 := by decide
          omega
        clear hxx hxy hacc
        go_wp2
        go_round
        case rel => exact ⟨6, acc + y % 128 * 34359738368, y / 128, rfl, rfl, (by first | rfl | (congr 1; done) | (congr 1; omega)), by omega, HC.out, HX.out, Or.inr (by omega), HA.out, HL.out⟩
        case measure => simp [intOf]
      · have hacc' : acc < 4398046511104 := by simpa using hacc
        have hxx : x = acc + y * 4398046511104 := by simpa using hxy
        omega

end Go.Proofs.Qxb6632497a
