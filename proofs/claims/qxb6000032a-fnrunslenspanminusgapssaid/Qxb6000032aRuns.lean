/-
  The contracts of runsOf (7) and Runs.Len (8).
-/
import Derived.Test.Qxb6000032aRows
import Derived.WalkKit
import Derived.ProofKit
import Derived.Below
import Derived.Deep.QuietTactic
import Derived.BigQuiet
import Derived.Deep.LoopGhost
import Derived.RegionTactic
import Derived.Outline
namespace Go.Proofs.Qxb6000032a.runs
open Go.ChangeShapes Go.WideShapes Go.ChangeAt Go.RowKit
set_option linter.unusedVariables false

/-- 'make([]T, n)': THE WORLD IS A NEW BLOCK. -/
theorem wpList_make_exact {P : Program} (w : World) {ops : Array Oper} {rest : List Oper} {o : Oper} {a : Act} {Q : Exit → Act → World → Prop}
    (hg : o.guard = none) (l c : Operand) (t : TypeId) (hop : o.op = Op.makeSlice t l c)
    (e : TypeId) (i : TypeInfo) (z : Value) (size : Nat) (h1 : P.underlying t = some (.slice e)) (h2 : P.info? e = some i) (h3 : i.zero = some z) (h4 : i.size = size)
    (kl kc : IntKind) (L C : Int) (n : Nat) (hl : a.eval l = .int kl L) (hc : a.eval c = .int kc C) (hL : L = (n : Int)) (hC : C = (n : Int)) (b2 : (i.bytes : Int) * n ≤ 281474976710656) (b3 : (n : Int) ≤ 9223372036854775807)
    (hK : ∀ M : Array Value, M.size = n * size → wpList P ops Q rest (a.put o.dst (.slice (some ⟨w.heap.size, 0, none⟩) n n)) (w.alloc (.cells M e))) :
    wpList P ops Q (o :: rest) a w := by
  refine wpList_plain hg fun K hK' => ?_
  have hrun := run_make (P := P) w t e i z h1 h2 h3 kl kc n n (by omega) (Int.le_refl _) b2 b3
  simp only [Int.toNat_natCast, h4] at hrun
  subst hL
  subst hC
  unfold Oper.wp
  simp [execOp, hop, hl, hc, hrun, Result.andThen]
  exact hK' _ _ (hK _ (size_madeCells _ _))

theorem info30 : (Try.prog.info? 30).map (fun i => (i.zero, i.size, i.bytes)) = some (some (.agg #[.int .i64 0, .int .i64 0]), 2, 16) := by kernel_rfl
theorem below_drewN {B : Nat} {a w : World} (h : Below B a w) (n : Nat) : Below B a (w.drewN n) := h.trans ⟨rfl, rfl, rfl, Nat.le_refl _, fun _ _ => rfl⟩

/-- The row of runs at block g: n pairs of cells, none frozen, the first k of them written. -/
structure Pairs (g n k : Nat) (F L : Nat → Int) (w : World) : Prop where
  lo : ∀ j, j < n → ∃ v, w.cell? ⟨g, j * 2, none⟩ = some v
  hi : ∀ j, j < n → ∃ v, w.cell? ⟨g, j * 2 + 1, none⟩ = some v
  free : ∀ o, w.frozen? ⟨g, o, none⟩ = false
  first : ∀ j, j < k → w.cell? ⟨g, j * 2, none⟩ = some (.int .i64 (F j))
  last : ∀ j, j < k → w.cell? ⟨g, j * 2 + 1, none⟩ = some (.int .i64 (L j))

theorem pairs_start (w : World) (n : Nat) (F L : Nat → Int) (M : Array Value) (hM : M.size = n * 2) : Pairs w.heap.size n 0 F L (w.alloc (.cells M 30)) := by
  refine ⟨fun j hj => ?_, fun j hj => ?_, fun o => by simp, fun j hj => absurd hj (by omega), fun j hj => absurd hj (by omega)⟩
  · have : j * 2 < M.size := by omega
    exact ⟨M[j * 2], by simp [this]⟩
  · have : j * 2 + 1 < M.size := by omega
    exact ⟨M[j * 2 + 1], by simp [this]⟩

theorem pairs_step {g n k : Nat} {F L : Nat → Int} {w : World} (h : Pairs g n k F L w) (hk : k < n) :
    Pairs g n (k + 1) F L ((w.setCell ⟨g, k * 2, none⟩ (.int .i64 (F k))).setCell ⟨g, k * 2 + 1, none⟩ (.int .i64 (L k))).drew := by
  obtain ⟨v0, t0⟩ := h.lo k hk
  obtain ⟨v1, t1⟩ := h.hi k hk
  have c0 : ((w.setCell ⟨g, k * 2, none⟩ (.int .i64 (F k))).setCell ⟨g, k * 2 + 1, none⟩ (.int .i64 (L k))).cell? ⟨g, k * 2, none⟩ = some (.int .i64 (F k)) :=
    (World.cell?_setCell_other _ _ _ _ (by simp)).trans (World.cell?_setCell_same _ _ _ t0)
  have c1 : ((w.setCell ⟨g, k * 2, none⟩ (.int .i64 (F k))).setCell ⟨g, k * 2 + 1, none⟩ (.int .i64 (L k))).cell? ⟨g, k * 2 + 1, none⟩ = some (.int .i64 (L k)) :=
    World.cell?_setCell_same _ _ _ (u := v1) ((World.cell?_setCell_other _ _ _ _ (by simp)).trans t1)
  have ot : ∀ o, o ≠ k * 2 → o ≠ k * 2 + 1 → ((w.setCell ⟨g, k * 2, none⟩ (.int .i64 (F k))).setCell ⟨g, k * 2 + 1, none⟩ (.int .i64 (L k))).cell? ⟨g, o, none⟩ = w.cell? ⟨g, o, none⟩ :=
    fun o e0 e1 => (World.cell?_setCell_other _ _ _ _ (by intro e; injection e; omega)).trans (World.cell?_setCell_other _ _ _ _ (by intro e; injection e; omega))
  refine ⟨fun j hj => ?_, fun j hj => ?_, fun o => ?_, fun j hj => ?_, fun j hj => ?_⟩
  · by_cases e : j = k
    · subst e; exact ⟨_, c0⟩
    · obtain ⟨v, hv⟩ := h.lo j hj
      exact ⟨v, (ot _ (by omega) (by omega)).trans hv⟩
  · by_cases e : j = k
    · subst e; exact ⟨_, c1⟩
    · obtain ⟨v, hv⟩ := h.hi j hj
      exact ⟨v, (ot _ (by omega) (by omega)).trans hv⟩
  · have := h.free o
    simp [this]
  · by_cases e : j = k
    · subst e; exact c0
    · exact (ot _ (by omega) (by omega)).trans (h.first j (by omega))
  · by_cases e : j = k
    · subst e; exact c1
    · exact (ot _ (by omega) (by omega)).trans (h.last j (by omega))

set_option maxHeartbeats 1000000 in
theorem runsOf_pos (b0 o0 c0 b1 o1 c1 n : Nat) (F L : Nat → Int) (w : World) (hn : n ≤ 65536)
    (h0 : ∀ i, i < n → w.cell? ⟨b0, o0 + i, none⟩ = some (.int .i64 (F i))) (h1 : ∀ i, i < n → w.cell? ⟨b1, o1 + i, none⟩ = some (.int .i64 (L i)))
    (hb0 : b0 < w.heap.size) (hb1 : b1 < w.heap.size) :
    Calls Try.prog 7 #[.slice (some ⟨b0, o0, none⟩) n c0, .slice (some ⟨b1, o1, none⟩) n c1] w fun e w' => e = .returned (.slice (some ⟨w.heap.size, 0, none⟩) n n) ∧
      Pairs w.heap.size n n F L w' ∧ w.heap.size < w'.heap.size ∧ Below w.heap.size w w' := by
  obtain ⟨i0, hi, hz0, hz1, hz2⟩ := info_parts info30
  have hb : (i0.bytes : Int) * (n : Int) ≤ 281474976710656 := by rw [hz2]; omega
  go_enter Try.func7, Try.ntmps7
  go_wp2_with (at_make; refine wpList_make_exact _ rfl _ _ 25 rfl 30 i0 (.agg #[.int .i64 0, .int .i64 0]) 2 Try.underlying25 hi hz0 hz1 _ _ _ _ n rfl rfl rfl rfl hb (by omega) ?_; intro M hM)
  go_loopg [6] n (fun gk i wr => ∃ k : Nat, Hid (gk = n - k) ∧ k ≤ n ∧ i = .int .i64 k ∧ Pairs w.heap.size n k F L wr ∧ w.heap.size < wr.heap.size ∧ Below w.heap.size w wr)
  case atStart => exact ⟨0, rfl, Nat.zero_le _, rfl, pairs_start w n F L M hM, by simp, (Below.refl _ _).alloc (Nat.le_refl _) _⟩
  case round =>
    obtain ⟨k, HG, hk, rfl, hp, hsz, hbel⟩ := hrel
    clear hb hi hz0 hz1 hz2 hM
    by_cases hlt : k < n
    · have r0 : wr.cell? ⟨b0, o0 + k, none⟩ = some (.int .i64 (F k)) := (hbel.cell (by exact hb0)).trans (h0 k hlt)
      have r1 : wr.cell? ⟨b1, o1 + k, none⟩ = some (.int .i64 (L k)) := (hbel.cell (by exact hb1)).trans (h1 k hlt)
      obtain ⟨v0, t0⟩ := hp.lo k hlt
      obtain ⟨v1, t1⟩ := hp.hi k hlt
      have f0 := hp.free (k * 2)
      have f1 := hp.free (k * 2 + 1)
      have hk' : (k : Int) < (n : Int) := by omega
      clear h0 h1
      have P1 := pairs_step hp hlt
      have B1 : Below w.heap.size w ((wr.setCell ⟨w.heap.size, k * 2, none⟩ (.int .i64 (F k))).setCell ⟨w.heap.size, k * 2 + 1, none⟩ (.int .i64 (L k))).drew :=
        ((hbel.setCell (Nat.le_refl _) _).setCell (Nat.le_refl _) _).drew
      have S1 : w.heap.size < ((wr.setCell ⟨w.heap.size, k * 2, none⟩ (.int .i64 (F k))).setCell ⟨w.heap.size, k * 2 + 1, none⟩ (.int .i64 (L k))).drew.heap.size := by simpa [World.setCell] using hsz
      go_wp2
      go_region
      go_wp2
      go_roundg (n - (k + 1))
      case rel => exact ⟨k + 1, rfl, by omega, by go_num, P1, S1, B1⟩
      case measure => rw [HG.out]; omega
    · obtain rfl : k = n := by omega
      clear h0 h1
      go_wp2
      go_ret
      exact ⟨rfl, hp, hsz, hbel⟩

/-- No runs: an empty row. -/
theorem runsOf_zero (a0 a1 : Option Addr) (c0 c1 : Nat) (w : World) :
    Calls Try.prog 7 #[.slice a0 0 c0, .slice a1 0 c1] w fun e w' => e = .returned (.slice (some ⟨w.heap.size, 0, none⟩) 0 0) ∧ w.heap.size < w'.heap.size ∧ Below w.heap.size w w' := by
  obtain ⟨i0, hi, hz0, hz1, hz2⟩ := info_parts info30
  go_enter Try.func7, Try.ntmps7
  go_wp2_with (at_make; refine wpList_make_exact _ rfl _ _ 25 rfl 30 i0 (.agg #[.int .i64 0, .int .i64 0]) 2 Try.underlying25 hi hz0 hz1 _ _ _ _ 0 rfl rfl rfl rfl (by simp) (by omega) ?_; intro M hM)
  refine wp_loop_rounds 1 ?_
  rw [rounds_succ]
  go_wp2
  go_ret
  exact ⟨rfl, by simp, (Below.refl _ _).alloc (Nat.le_refl _) _⟩

/-! ### Len -/
/-- The sum of the first k runs' lengths, bare. -/
def sumR (F L : Nat → Int) : Nat → Int
  | 0 => 0
  | k + 1 => sumR F L k + (L k - F k + 1)
theorem sumR_step (F L : Nat → Int) (k : Nat) : wrap64 (wrap64 (sumR F L k) + wrap64 (wrap64 (L k - F k) + 1)) = wrap64 (sumR F L (k + 1)) := by
  simp only [sumR]
  unfold wrap64
  omega

theorem wrap_zero (F L : Nat → Int) : wrap64 (sumR F L 0) = 0 := by simp only [sumR]; unfold wrap64; omega

set_option maxHeartbeats 1000000 in
theorem len_any (g n : Nat) (F L : Nat → Int) (w : World) (hn : n ≤ 65536) (hg : g < w.heap.size)
    (h0 : ∀ j, j < n → w.cell? ⟨g, j * 2, none⟩ = some (.int .i64 (F j))) (h1 : ∀ j, j < n → w.cell? ⟨g, j * 2 + 1, none⟩ = some (.int .i64 (L j))) :
    Calls Try.prog 8 #[.slice (some ⟨g, 0, none⟩) n n] w fun e w' => e = .returned (.int .i64 (wrap64 (sumR F L n))) ∧ Below w.heap.size w w' := by
  go_enter Try.func8, Try.ntmps8
  go_wp2
  go_loopg [3, 8] n (fun gk s i wr => ∃ k : Nat, Hid (gk = n - k) ∧ k ≤ n ∧ i = .int .i64 k ∧ s = .int .i64 (wrap64 (sumR F L k)) ∧ Below w.heap.size w wr)
  case atStart => exact ⟨0, rfl, Nat.zero_le _, rfl, by rw [wrap_zero], Below.refl _ _⟩
  case round =>
    obtain ⟨k, HG, hk, rfl, rfl, hbel⟩ := hrel
    by_cases hlt : k < n
    · have r0 : wr.cell? ⟨g, k * 2, none⟩ = some (.int .i64 (F k)) := (hbel.cell (by exact hg)).trans (h0 k hlt)
      have r1 : wr.cell? ⟨g, k * 2 + 1, none⟩ = some (.int .i64 (L k)) := (hbel.cell (by exact hg)).trans (h1 k hlt)
      have hsz := hbel.size
      clear h0 h1
      go_wp2
      go_roundg (n - (k + 1))
      case rel => exact ⟨k + 1, rfl, by omega, by go_num, by rw [sumR_step], hbel.alloc hsz _⟩
      case measure => rw [HG.out]; omega
    · obtain rfl : k = n := by omega
      clear h0 h1
      go_wp2
      go_ret
      exact ⟨rfl, hbel⟩

/-- Len of an empty row, whatever its address. -/
theorem len_zero (a : Option Addr) (c : Nat) (w : World) :
    Calls Try.prog 8 #[.slice a 0 c] w fun e w' => e = .returned (.int .i64 0) ∧ w = w' := by
  go_enter Try.func8, Try.ntmps8
  go_wp2
  refine wp_loop_rounds 1 ?_
  rw [rounds_succ]
  go_wp2
  go_ret
  exact ⟨rfl, rfl⟩

/-! ### The plain law -/
/-- The sum of the first k gaps, bare. -/
def gaps (F L : Nat → Int) : Nat → Int
  | 0 => 0
  | k + 1 => gaps F L k + (F (k + 1) - L k - 1)
theorem span (F L : Nat → Int) : ∀ m : Nat, sumR F L (m + 1) = L m - F 0 + 1 - gaps F L m
  | 0 => by simp only [sumR, gaps]; omega
  | m + 1 => by
    have ih := span F L m
    rw [sumR, ih, gaps]
    omega
theorem want_start (F L : Nat → Int) (m : Nat) : wrap64 (wrap64 (L m - F 0) + 1) = wrap64 (L m - F 0 + 1 - gaps F L 0) := by
  simp only [gaps]
  unfold wrap64
  omega
theorem want_step (F L : Nat → Int) (x : Int) (k : Nat) : wrap64 (wrap64 (x - gaps F L k) - wrap64 (wrap64 (F (k + 1) - L k) - 1)) = wrap64 (x - gaps F L (k + 1)) := by
  simp only [gaps]
  unfold wrap64
  omega
end Go.Proofs.Qxb6000032a.runs
