/-
  The walk of 'FnNextSkipsBlanksExactly' (function 3) over its callees' contracts.
-/
import Derived.Test.Qxb6000005aNext
namespace Go.Proofs.Qxb6000005a.jw
open Go.ChangeShapes Go.WideShapes Go.ChangeAt Go.RowKit
set_option linter.unusedVariables false

theorem isBlank_yes {c : Int} (w : World) (h : blankB c = true) : Calls Try.prog 14 #[.int .u8 c] w fun e w' => e = .returned (.bool true) ∧ w = w' :=
  (isBlank_any c w).mono fun e w' ⟨h1, h2⟩ => ⟨by rw [h1, h], h2.symm⟩
theorem isBlank_not {c : Int} (w : World) (h : blankB c = false) : Calls Try.prog 14 #[.int .u8 c] w fun e w' => e = .returned (.bool false) ∧ w = w' :=
  (isBlank_any c w).mono fun e w' ⟨h1, h2⟩ => ⟨by rw [h1, h], h2.symm⟩

/-- More than 1048576 bytes: true at once. -/
theorem walk_long (a0 : Option Addr) (len0 cap0 : Nat) (a1 : Int) (w : World) (hm : len0 ≤ 9223372036854775807) (hlen : 1048576 < len0) :
    Calls Try.prog 3 #[.slice a0 len0 cap0, .int .i64 a1] w fun e w' => e = .returned (.bool true) ∧ Below w.heap.size w w' := by
  go_enter Try.func3, Try.ntmps3
  go_wp2
  go_ret
  exact ⟨rfl, Below.refl _ _⟩

/-- A position outside the data: true at once. -/
theorem walk_out (a0 : Option Addr) (len0 cap0 : Nat) (a1 : Int) (w : World) (hlen : len0 ≤ 1048576) (ho : a1 < 0 ∨ (len0 : Int) < a1) :
    Calls Try.prog 3 #[.slice a0 len0 cap0, .int .i64 a1] w fun e w' => e = .returned (.bool true) ∧ Below w.heap.size w w' := by
  rcases ho with ho | ho
  · go_enter Try.func3, Try.ntmps3
    go_wp2
    go_ret
    exact ⟨rfl, Below.refl _ _⟩
  · have h0 : ¬ a1 < 0 := by omega
    go_enter Try.func3, Try.ntmps3
    go_wp2
    go_ret
    exact ⟨rfl, Below.refl _ _⟩

theorem new_any (d0 : Option Addr) (l0 c0 : Nat) (n : Int) (s : Bool) (w : World) :
    Calls Try.prog 11 #[.slice d0 l0 c0, .int .i64 n, .bool s] w fun e w' => e = .returned (.pointer (some ⟨w.heap.size, 0, none⟩)) ∧ w' = w.alloc (.cells #[.slice d0 l0 c0, .int .i64 n, .bool s] 35) := by
  go_enter Try.func11, Try.ntmps11
  go_wp2
  go_ret
  exact ⟨rfl, rfl⟩

theorem pos_any (p : Nat) (q : Int) (w : World) (h : w.cell? ⟨p, 1, none⟩ = some (.int .i64 q)) :
    Calls Try.prog 13 #[.pointer (some ⟨p, 0, none⟩)] w fun e w' => e = .returned (.int .i64 q) ∧ w = w' := by
  go_enter Try.func13, Try.ntmps13
  go_wp2
  go_ret
  exact ⟨rfl, rfl⟩

set_option maxHeartbeats 1000000 in
/-- The nil slice, at position 0. -/
theorem walk_nil (w : World) :
    Calls Try.prog 3 #[.slice none 0 0, .int .i64 0] w fun e w' => e = .returned (.bool true) ∧ Below w.heap.size w w' := by
  go_enter Try.func3, Try.ntmps3
  go_wp2_with (first | (go_at_call 9; go_in) | (go_at_call 10; refine (clone_nil _).mono ?_; rintro e w' ⟨rfl, rfl⟩) | (go_at_call 11; refine (new_any _ _ _ _ _ _).mono ?_; rintro e w' ⟨rfl, rfl⟩))
  refine (next_end w'.heap.size 0 0 none _ (by omega) (by simp) (by simp)).mono ?_
  rintro e w2 ⟨rfl, hc, hb⟩
  have hb' : Below w'.heap.size w' w2 := ((Below.refl _ _).alloc (Nat.le_refl _) _).trans hb
  clear hb
  go_wp2_with (first | (go_at_call 13; refine (pos_any _ _ _ hc).mono ?_; rintro e w' ⟨rfl, rfl⟩))
  refine wp_loop_rounds 1 ?_
  rw [rounds_succ]
  go_wp2
  go_ret
  exact ⟨rfl, hb'⟩

set_option maxHeartbeats 1000000 in
/-- The data a row of bytes, the position inside it. -/
theorem walk_row (x : Addr) (len cap : Nat) (zs : List Int) (pos : Nat) (w : World) (hlen : len ≤ 1048576) (hpos : pos ≤ len) (hl : len ≤ cap) (hz : zs.length = cap)
    (hc : ∀ i, i < zs.length → w.cell? (x.add i) = some (.int .u8 (zs.getD i 0))) :
    Calls Try.prog 3 #[.slice (some x) len cap, .int .i64 pos] w fun e w' => e = .returned (.bool true) ∧ Below w.heap.size w w' := by
  have HCL := clone_row x len cap zs w hl hz hlen hc
  clear hc
  go_enter Try.func3, Try.ntmps3
  go_wp2_with (first | (go_at_call 9; go_in))
  refine HCL.mono ?_
  clear HCL
  rintro e w1 ⟨rfl, hg, hs, hb⟩
  have HS : Hid (w1.heap.size = w.heap.size + 1) := hs
  have hd1 : ∀ i, i < len → w1.cell? ⟨w.heap.size, i, none⟩ = some (.int .u8 (zs.getD i 0)) := by
    intro i hi
    have hiz : i < zs.length := by omega
    simp [World.cell?, hg, hi, hiz]
  clear hs hg
  go_wp2_with (first | (go_at_call 11; refine (new_any _ _ _ _ _ _).mono ?_; rintro e w' ⟨rfl, rfl⟩))
  have hgp : w.heap.size < w1.heap.size := by rw [HS.out]; omega
  have hd2 : ∀ i, i < len → (w1.alloc (.cells #[.slice (some ⟨w.heap.size, 0, none⟩) len len, .int .i64 pos, .bool false] 35)).cell? ⟨w.heap.size, i, none⟩ = some (.int .u8 (zs.getD i 0)) := by
    intro i hi
    rw [World.cell?_alloc_lt w1 _ _ hgp]
    exact hd1 i hi
  refine (next_row w1.heap.size w.heap.size len pos zs _ hgp hpos hlen (by simp) (by simp) (by simp) hd2).mono ?_
  rintro e w2 ⟨q, c, hq1, hq2, hbl, hlt, hend, rfl, hc, hb2⟩
  have hd3 : ∀ i, i < len → w2.cell? ⟨w.heap.size, i, none⟩ = some (.int .u8 (zs.getD i 0)) := fun i hi => (hb2.cell (by exact hgp)).trans (hd2 i hi)
  have hbe : Below w.heap.size w w2 := (hb.alloc (by omega) _).trans (hb2.mono (by omega))
  clear hd2 hd1 hb hb2
  have HBL : Hid (∀ (i : Nat), pos ≤ i → i < q → blankB (zs.getD i 0) = true) := hbl
  have HLT : Hid (q < len → blankB (zs.getD q 0) = false ∧ c = zs.getD q 0) := hlt
  have HEND : Hid (q = len → c = 0) := hend
  have HD : Hid (∀ i, i < len → w2.cell? ⟨w.heap.size, i, none⟩ = some (.int .u8 (zs.getD i 0))) := hd3
  clear hbl hlt hend hd3
  have e1 : decide (q < pos) = false := decide_eq_false (by omega)
  have e2 : decide (len < q) = false := decide_eq_false (by omega)
  go_wp2_with (first | (go_at_call 13; refine (pos_any _ _ _ hc).mono ?_; rintro e w3 ⟨rfl, rfl⟩))
  go_loopg [8] (q - pos) (fun gk i wr => ∃ k : Nat, Hid (gk = q - k) ∧ pos ≤ k ∧ k ≤ q ∧ i = .int .i64 k ∧ Hid (wr = w2))
  case atStart => exact ⟨pos, rfl, Nat.le_refl _, hq1, rfl, rfl⟩
  case round =>
    obtain ⟨k, HG, hk1, hk2, rfl, HW⟩ := hrel
    by_cases hkq : k < q
    · have hck : wr.cell? ⟨w.heap.size, k, none⟩ = some (.int .u8 (zs.getD k 0)) := by rw [HW.out]; exact HD.out k (by omega)
      have HB : Hid (blankB (zs.getD k 0) = true) := HBL.out k hk1 hkq
      obtain ⟨b, hb⟩ : ∃ b, b = zs.getD k 0 := ⟨_, rfl⟩
      rw [← hb] at hck HB
      clear hb
      go_wp2_with (first | (go_at_call 14; refine (isBlank_yes _ HB.out).mono ?_; rintro e w' ⟨rfl, rfl⟩))
      go_roundg (q - (k + 1))
      case rel => exact ⟨k + 1, rfl, by omega, by omega, by go_num, HW⟩
      case measure => rw [HG.out]; omega
    · obtain rfl : k = q := by omega
      by_cases hql : k < len
      · have hck : wr.cell? ⟨w.heap.size, k, none⟩ = some (.int .u8 (zs.getD k 0)) := by rw [HW.out]; exact HD.out k hql
        obtain ⟨HB0, hcb⟩ := HLT.out hql
        have HB : Hid (blankB (zs.getD k 0) = false) := HB0
        rw [← hcb] at hck HB
        clear hcb HB0
        go_wp2_with (first | (go_at_call 14; refine (isBlank_not _ HB.out).mono ?_; rintro e w' ⟨rfl, rfl⟩))
        go_ret
        exact ⟨rfl, by rw [HW.out]; exact hbe⟩
      · obtain rfl : k = len := by omega
        obtain rfl : c = 0 := HEND.out rfl
        go_wp2
        go_ret
        exact ⟨rfl, by rw [HW.out]; exact hbe⟩
end Go.Proofs.Qxb6000005a.jw
