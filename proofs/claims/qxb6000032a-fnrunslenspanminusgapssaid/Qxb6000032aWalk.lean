/-
  The walk of FnRunsLenSpanMinusGaps (3) over the callees' contracts.
-/
import Derived.Test.Qxb6000032aRuns
namespace Go.Proofs.Qxb6000032a.runs
open Go.ChangeShapes Go.WideShapes Go.ChangeAt Go.RowKit
set_option linter.unusedVariables false

/-- Too long, or of two lengths: true at once. -/
theorem walk_out (a0 a1 : Option Addr) (n0 c0 n1 c1 : Nat) (w : World) (hm0 : n0 ≤ 9223372036854775807) (hm1 : n1 ≤ 9223372036854775807) (h : 65536 < n0 ∨ 65536 < n1 ∨ n0 ≠ n1) :
    Calls Try.prog 3 #[.slice a0 n0 c0, .slice a1 n1 c1] w fun e w' => e = .returned (.bool true) ∧ Below w.heap.size w w' := by
  by_cases p1 : 1048576 < n0
  · go_enter Try.func3, Try.ntmps3
    go_wp2
    go_ret
    exact ⟨rfl, Below.refl _ _⟩
  by_cases p2 : 1048576 < n1
  · go_enter Try.func3, Try.ntmps3
    go_wp2
    go_ret
    exact ⟨rfl, Below.refl _ _⟩
  by_cases p3 : 1048576 < n0 + n1
  · go_enter Try.func3, Try.ntmps3
    go_wp2
    go_ret
    exact ⟨rfl, Below.refl _ _⟩
  by_cases p4 : 65536 < n0
  · go_enter Try.func3, Try.ntmps3
    go_wp2
    go_ret
    exact ⟨rfl, Below.refl _ _⟩
  by_cases p5 : 65536 < n1
  · go_enter Try.func3, Try.ntmps3
    go_wp2
    go_ret
    exact ⟨rfl, Below.refl _ _⟩
  have hne : ((n0 : Int) != (n1 : Int)) = true := by simp; omega
  clear h
  go_enter Try.func3, Try.ntmps3
  go_wp2
  go_ret
  exact ⟨rfl, Below.refl _ _⟩

set_option maxHeartbeats 400000 in
/-- No runs. -/
theorem walk_zero (a0 a1 : Option Addr) (c0 c1 : Nat) (w : World) :
    Calls Try.prog 3 #[.slice a0 0 c0, .slice a1 0 c1] w fun e w' => e = .returned (.bool true) ∧ Below w.heap.size w w' := by
  go_enter Try.func3, Try.ntmps3
  go_wp2_with (first | (go_at_call 6; go_in) | (go_at_call 7; refine (runsOf_zero _ _ _ _ _).mono ?_; rintro e w1 ⟨rfl, hsz, hb⟩) | (go_at_call 8; refine (len_zero _ _ _).mono ?_; rintro e w2 ⟨rfl, rfl⟩))
  go_ret
  exact ⟨rfl, hb⟩

set_option maxHeartbeats 1000000 in
/-- n runs, at least one. -/
theorem walk_pos (b0 o0 c0 b1 o1 c1 n : Nat) (F L : Nat → Int) (w : World) (hn : n ≤ 65536) (hpos : 0 < n)
    (h0 : ∀ i, i < n → w.cell? ⟨b0, o0 + i, none⟩ = some (.int .i64 (F i))) (h1 : ∀ i, i < n → w.cell? ⟨b1, o1 + i, none⟩ = some (.int .i64 (L i)))
    (hb0 : b0 < w.heap.size) (hb1 : b1 < w.heap.size) :
    Calls Try.prog 3 #[.slice (some ⟨b0, o0, none⟩) n c0, .slice (some ⟨b1, o1, none⟩) n c1] w fun e w' => e = .returned (.bool true) ∧ Below w.heap.size w w' := by
  have HR : Hid (Calls Try.prog 7 #[.slice (some ⟨b0, o0, none⟩) n c0, .slice (some ⟨b1, o1, none⟩) n c1] w _) := runsOf_pos b0 o0 c0 b1 o1 c1 n F L w hn h0 h1 hb0 hb1
  have H0 : Hid (∀ i, i < n → w.cell? ⟨b0, o0 + i, none⟩ = some (.int .i64 (F i))) := h0
  have H1 : Hid (∀ i, i < n → w.cell? ⟨b1, o1 + i, none⟩ = some (.int .i64 (L i))) := h1
  clear h0 h1
  have q1 : decide ((65536 : Int) < (n : Int)) = false := decide_eq_false (by omega)
  go_enter Try.func3, Try.ntmps3
  go_wp2_with (first | (go_at_call 6; go_in))
  refine HR.out.mono ?_
  clear HR
  rintro e w1 ⟨rfl, hp, hsz, hb⟩
  go_wp2_with fail
  refine (len_any w.heap.size n F L w1 hn hsz hp.first hp.last).mono ?_
  rintro e w2 ⟨rfl, hb2⟩
  have hbe : Below w.heap.size w w2 := hb.trans (hb2.mono (by omega))
  have H0' : Hid (∀ i, i < n → w2.cell? ⟨b0, o0 + i, none⟩ = some (.int .i64 (F i))) := fun i hi => (hbe.cell (by exact hb0)).trans (H0.out i hi)
  have H1' : Hid (∀ i, i < n → w2.cell? ⟨b1, o1 + i, none⟩ = some (.int .i64 (L i))) := fun i hi => (hbe.cell (by exact hb1)).trans (H1.out i hi)
  have r0 : w2.cell? ⟨b0, o0, none⟩ = some (.int .i64 (F 0)) := by simpa using H0'.out 0 hpos
  have r1 : w2.cell? ⟨b1, o1 + (n - 1), none⟩ = some (.int .i64 (L (n - 1))) := H1'.out (n - 1) (by omega)
  have i0 : (0 : Int) < (n : Int) := by omega
  have i1 : (n : Int) - 1 < (n : Int) := by omega
  have i2 : (0 : Int) ≤ (n : Int) - 1 := by omega
  have e0 : ((n : Int) == 0) = false := by simp; omega
  clear H0 H1 hp hsz hb hb2
  go_wp2
  go_quiet (fail)
  go_wp2
  have HX : Hid (sumR F L n = L (n - 1) - F 0 + 1 - gaps F L (n - 1)) := by
    have := span F L (n - 1)
    rwa [show n - 1 + 1 = n from by omega] at this
  clear r0 r1
  go_loopg [8, 9, 10] (n - 1) (fun gk s i _ wr => ∃ k nr : Nat, Hid (gk = n - 1 - k) ∧ k + 1 ≤ n ∧ i = .int .i64 k ∧ s = .int .i64 (wrap64 (L (n - 1) - F 0 + 1 - gaps F L k)) ∧ Hid (wr = w2.drewN nr))
  case atStart => exact ⟨0, nq, rfl, hpos, rfl, by rw [want_start], rfl⟩
  case round =>
    obtain ⟨k, nr, HG, hk, rfl, rfl, HW⟩ := hrel
    by_cases hlt : k + 1 < n
    · have r0 : wr.cell? ⟨b0, o0 + (k + 1), none⟩ = some (.int .i64 (F (k + 1))) := by rw [HW.out]; exact H0'.out (k + 1) hlt
      have r1 : wr.cell? ⟨b1, o1 + k, none⟩ = some (.int .i64 (L k)) := by rw [HW.out]; exact H1'.out k (by omega)
      have j1 : (k : Int) + 1 < (n : Int) := by omega
      have j2 : (k : Int) < (n : Int) := by omega
      go_wp2
      go_quiet (fail)
      go_wp2
      go_roundg (n - 1 - (k + 1))
      case rel => exact ⟨k + 1, nr + nq, rfl, by omega, by go_num, by rw [want_step], by show _ = _; rw [HW.out]; simp [World.drewN, Nat.add_assoc]⟩
      case measure => rw [HG.out]; omega
    · have hfin : (wrap64 (sumR F L n) == wrap64 (L (n - 1) - F 0 + 1 - gaps F L k)) = true := by
        rw [HX.out, show k = n - 1 from by omega]
        simp
      go_wp2
      go_ret
      exact ⟨rfl, by rw [HW.out]; exact below_drewN hbe _⟩
end Go.Proofs.Qxb6000032a.runs
