/- The log's columns as they came in; zzBuildState over them. -/
import Derived.Test.Qxb6632418aBuild
import Derived.OpenShut
namespace Go.Proofs.Qxb6632418a
open Go.RowKit Go.Maps Logs

/-- A slice of integers that came in. -/
def Row (k : IntKind) (w : World) (a : Option Addr) (len cap : Nat) (zs : List Int) : Prop :=
  (a = none ∧ len = 0 ∧ cap = 0 ∧ zs = []) ∨
  ∃ x, a = some x ∧ len ≤ cap ∧ cap ≤ maxLen ∧ zs.length = cap ∧ (∀ i, i < zs.length → w.cell? (x.add i) = some (.int k (zs.getD i 0))) ∧ ∀ n ∈ zs, (Lit.int k n).wf = true
def at0 (zs : List Int) (i : Nat) : Int := zs.getD i 0
theorem Row.len {k : IntKind} {w : World} {a : Option Addr} {len cap : Nat} {zs : List Int} (h : Row k w a len cap zs) : len ≤ maxLen := by
  rcases h with ⟨_, h, _⟩ | ⟨x, _, h1, h2, _⟩
  · rw [h]; exact Nat.zero_le _
  · exact Nat.le_trans h1 h2
theorem Row.col {k : IntKind} {w : World} {a : Option Addr} {len cap n : Nat} {zs : List Int} (h : Row k w a len cap zs) (hn : 0 < n) (hl : n ≤ len) : ∃ b off, a = some ⟨b, off, none⟩ ∧ Col k w b off n (at0 zs) := by
  rcases h with ⟨_, h, _⟩ | ⟨x, rfl, h1, _, h3, h4, h5⟩
  · omega
  · obtain ⟨b, off, rfl, hc⟩ := ints_at h4 (by omega)
    refine ⟨b, off, rfl, fun i hi => ⟨hc i (by omega), ?_⟩⟩
    unfold at0
    have hi' : i < zs.length := by omega
    rw [List.getD_eq_getElem?_getD, List.getElem?_eq_getElem hi']
    exact h5 _ (List.getElem_mem hi')

/-- The log. -/
def log (z0 z1 z2 : List Int) (n : Nat) : List Ev := ev (at0 z0) (at0 z1) (at0 z2) n

theorem build_any (w : World) (a0 a1 a2 : Option Addr) (n0 c0 n1 c1 n2 c2 : Nat) (z0 z1 z2 : List Int) (h0 : Row .u32 w a0 n0 c0 z0) (h1 : Row .u32 w a1 n1 c1 z1) (h2 : Row .u64 w a2 n2 c2 z2) (n : Nat) (hn : n = min n0 (min n1 n2)) (hm : n ≤ 65536) :
    Calls Try.prog 7 #[.slice a0 n0 c0, .slice a1 n1 c1, .slice a2 n2 c2, .int .i64 n] w fun e w' =>
      ∃ b1 b2, e = .returned (.agg #[.map (some b1), .map (some b2)]) ∧ St w' b1 b2 n (M1 (log z0 z1 z2 n)) (M2 (log z0 z1 z2 n)) ∧ w.heap.size ≤ b1 ∧ w.heap.size ≤ b2 ∧ Below w.heap.size w w' := by
  by_cases hz : n = 0
  · rw [hz]
    exact build_zero w a0 a1 a2 n0 c0 n1 c1 n2 c2 _ _ _
  · obtain ⟨p0, o0, rfl, k0⟩ := h0.col (n := n) (by omega) (by omega)
    obtain ⟨p1, o1, rfl, k1⟩ := h1.col (n := n) (by omega) (by omega)
    obtain ⟨p2, o2, rfl, k2⟩ := h2.col (n := n) (by omega) (by omega)
    exact build_some w p0 o0 p1 o1 p2 o2 n0 c0 n1 c1 n2 c2 n _ _ _ (by omega) hm (by omega) (by omega) (by omega) k0 k1 k2

theorem log_wf {w : World} {a0 a1 a2 : Option Addr} {n0 c0 n1 c1 n2 c2 : Nat} {z0 z1 z2 : List Int} (h0 : Row .u32 w a0 n0 c0 z0) (h1 : Row .u32 w a1 n1 c1 z1) (h2 : Row .u64 w a2 n2 c2 z2) {n : Nat} (hn : n = min n0 (min n1 n2)) : WfEv (log z0 z1 z2 n) := by
  by_cases hz : n = 0
  · rw [hz]; intro e he; simp [log, ev] at he
  · obtain ⟨p0, o0, rfl, k0⟩ := h0.col (n := n) (by omega) (by omega)
    obtain ⟨p1, o1, rfl, k1⟩ := h1.col (n := n) (by omega) (by omega)
    obtain ⟨p2, o2, rfl, k2⟩ := h2.col (n := n) (by omega) (by omega)
    exact wf_ev k0 k1 k2

/-- ZZrecord, over a log. -/
theorem rec_log (w : World) (b1 b2 n : Nat) (l : List Ev) (d s q : Int) (hd : U32 d) (hs : U32 s) (hq : U64 q) (hn : n < maxLen) (h : St w b1 b2 n (M1 l) (M2 l)) :
    Calls Try.prog 11 #[.agg #[.map (some b1), .map (some b2)], .agg #[.int .u32 d, .int .u32 s, .int .u64 q]] w fun e w' => e = .returned (.tuple #[]) ∧ St w' b1 b2 (n + 1) (M1 (l ++ [(d, s, q)])) (M2 (l ++ [(d, s, q)])) ∧ Kept b1 b2 w w' := by
  rw [M1_snoc, M2_snoc]
  exact rec_any w b1 b2 n _ _ d s q hd hs hq hn h

/-- LastReplicated, the answer's parts as letters. -/
theorem lr_parts (w : World) (b1 b2 n : Nat) (l : List Ev) (d srv r0 r1 r2 : Int) (rb : Bool) (h : St w b1 b2 n (M1 l) (M2 l)) (hw : WfEv l) (hd : U32 d) (hr : lr l d srv = ((r0, r1, r2), rb)) :
    Calls Try.prog 8 #[.agg #[.map (some b1), .map (some b2)], .int .u32 d, .int .u32 srv] w fun e w' => e = .returned (.tuple #[.agg #[.int .u32 r0, .int .u32 r1, .int .u64 r2], .bool rb]) ∧ Below w.heap.size w w' := by
  have := lr_any w b1 b2 n l d srv h hw hd
  rw [hr] at this
  exact this

end Go.Proofs.Qxb6632418a
