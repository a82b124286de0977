/-
  The walk of FnValidExactlyVersion7Variant10Encodings (4).
-/
import Derived.Test.Qxb6000077aPlain
namespace Go.Proofs.Qxb6000077a.uu
open Go.ChangeShapes Go.WideShapes Go.ChangeAt Go.RowKit
set_option linter.unusedVariables false

/-- What Valid says of the text of B. -/
theorem valid_text (B : Nat → Int) (hB : ∀ j, j < 16 → 0 ≤ B j ∧ B j ≤ 255) (s : ByteArray) (w : World) (hs : s.size = 36) (hC : ∀ i (h : i < s.size), ((s[i]'h).toNat : Int) = (txt B 16).getD i 0) :
    Calls Try.prog 7 #[.string s] w fun e w' => e = .returned (.bool (decide (B 6 / 16 = 7 ∧ B 8 / 64 = 2))) ∧ w = w' := by
  have b6 := hB 6 (by omega)
  have b8 := hB 8 (by omega)
  have f14 : B 6 / 16 = 7 → Fits 14 ((txt B 16).getD 14 0) := fun h => .inr (.inl ⟨rfl, by rw [at14]; exact (hex7 (by omega) (by omega)).2 h⟩)
  by_cases h7 : B 6 / 16 = 7
  · by_cases h2 : B 8 / 64 = 2
    · have f19 : Fits 19 ((txt B 16).getD 19 0) := .inr (.inr (.inl ⟨rfl, by rw [at19]; exact (hex89ab (by omega) (by omega)).2 (by omega)⟩))
      refine (valid_walk s (fun i => (txt B 16).getD i 0) 36 w hs hC (by omega) (fun i hi => ?_) (.inl rfl)).mono fun e w' ⟨he, hw⟩ => ⟨by rw [he]; simp [h7, h2], hw⟩
      by_cases e14 : i = 14
      · subst e14; exact f14 h7
      · by_cases e19 : i = 19
        · subst e19; exact f19
        · exact fits_at B hB i hi e14 e19
    · refine (valid_walk s (fun i => (txt B 16).getD i 0) 19 w hs hC (by omega) (fun i hi => ?_) (.inr (.inr ⟨rfl, ?_⟩))).mono fun e w' ⟨he, hw⟩ => ⟨by rw [he]; simp [h2], hw⟩
      · by_cases e14 : i = 14
        · subst e14; exact f14 h7
        · exact fits_at B hB i (by omega) e14 (by omega)
      · have hn : ¬ (hexD (B 8 / 16) = 56 ∨ hexD (B 8 / 16) = 57 ∨ hexD (B 8 / 16) = 97 ∨ hexD (B 8 / 16) = 98) := fun h => h2 (by have := (hex89ab (by omega) (by omega)).1 h; omega)
        show (txt B 16).getD 19 0 ≠ 56 ∧ (txt B 16).getD 19 0 ≠ 57 ∧ (txt B 16).getD 19 0 ≠ 97 ∧ (txt B 16).getD 19 0 ≠ 98
        rw [at19]
        omega
  · refine (valid_walk s (fun i => (txt B 16).getD i 0) 14 w hs hC (by omega) (fun i hi => fits_at B hB i (by omega) (by omega) (by omega)) (.inr (.inl ⟨rfl, ?_⟩))).mono fun e w' ⟨he, hw⟩ => ⟨by rw [he]; simp [h7], hw⟩
    show (txt B 16).getD 14 0 ≠ 55
    rw [at14]
    exact fun h => h7 ((hex7 (by omega) (by omega)).1 h)

theorem valid_is (B : Nat → Int) (v : Bool) (hv : decide (B 6 / 16 = 7 ∧ B 8 / 64 = 2) = v) (hB : ∀ j, j < 16 → 0 ≤ B j ∧ B j ≤ 255) (s : ByteArray) (w : World) (hs : s.size = 36 ∧ ∀ i (h : i < s.size), ((s[i]'h).toNat : Int) = (txt B 16).getD i 0) :
    Calls Try.prog 7 #[.string s] w fun e w' => e = .returned (.bool v) ∧ w = w' := by
  rw [← hv]
  exact valid_text B hB s w hs.1 hs.2

set_option maxHeartbeats 1000000 in
theorem walk_case (B : Nat → Int) (v x y : Bool) (w : World) (hB : ∀ j, j < 16 → 0 ≤ B j ∧ B j ≤ 255) (hv : decide (B 6 / 16 = 7 ∧ B 8 / 64 = 2) = v) (t1 : (B 6 / 16 == 7) = x) (t2 : (B 8 / 64 == 2) = y) (hxy : v = (x && y)) :
    Calls Try.prog 4 #[.agg #[.int .u8 (B 0), .int .u8 (B 1), .int .u8 (B 2), .int .u8 (B 3), .int .u8 (B 4), .int .u8 (B 5), .int .u8 (B 6), .int .u8 (B 7), .int .u8 (B 8), .int .u8 (B 9), .int .u8 (B 10), .int .u8 (B 11), .int .u8 (B 12), .int .u8 (B 13), .int .u8 (B 14), .int .u8 (B 15)]] w fun e w' => e = .returned (.bool true) ∧ Below w.heap.size w w' := by
  have HFM : Hid (∀ W, Calls Try.prog 9 #[.agg #[.int .u8 (B 0), .int .u8 (B 1), .int .u8 (B 2), .int .u8 (B 3), .int .u8 (B 4), .int .u8 (B 5), .int .u8 (B 6), .int .u8 (B 7), .int .u8 (B 8), .int .u8 (B 9), .int .u8 (B 10), .int .u8 (B 11), .int .u8 (B 12), .int .u8 (B 13), .int .u8 (B 14), .int .u8 (B 15)]] W fun e w' => ∃ s : ByteArray, e = .returned (.string s) ∧ s.size = 36 ∧ (∀ i (h : i < s.size), ((s[i]'h).toNat : Int) = (txt B 16).getD i 0) ∧ Below W.heap.size W w') := fun W => format_any B W hB
  have HVT : Hid (∀ (s : ByteArray) (W : World), (s.size = 36 ∧ ∀ i (h : i < s.size), ((s[i]'h).toNat : Int) = (txt B 16).getD i 0) → Calls Try.prog 7 #[.string s] W fun e w' => e = .returned (.bool v) ∧ W = w') := fun s W h => valid_is B v hv hB s W h
  have b6 := hB 6 (by omega)
  have b8 := hB 8 (by omega)
  have c6 := arr_at B w 6 (by omega)
  have c8 := arr_at B w 8 (by omega)
  have hal : Below w.heap.size w (w.alloc (.cells #[.int .u8 (B 0), .int .u8 (B 1), .int .u8 (B 2), .int .u8 (B 3), .int .u8 (B 4), .int .u8 (B 5), .int .u8 (B 6), .int .u8 (B 7), .int .u8 (B 8), .int .u8 (B 9), .int .u8 (B 10), .int .u8 (B 11), .int .u8 (B 12), .int .u8 (B 13), .int .u8 (B 14), .int .u8 (B 15)] 23)) := (Below.refl _ _).alloc (Nat.le_refl _) _
  have hsz : (w.alloc (.cells #[.int .u8 (B 0), .int .u8 (B 1), .int .u8 (B 2), .int .u8 (B 3), .int .u8 (B 4), .int .u8 (B 5), .int .u8 (B 6), .int .u8 (B 7), .int .u8 (B 8), .int .u8 (B 9), .int .u8 (B 10), .int .u8 (B 11), .int .u8 (B 12), .int .u8 (B 13), .int .u8 (B 14), .int .u8 (B 15)] 23)).heap.size = w.heap.size + 1 := by simp
  obtain ⟨W1, hW1⟩ : ∃ W1, W1 = w.alloc (.cells #[.int .u8 (B 0), .int .u8 (B 1), .int .u8 (B 2), .int .u8 (B 3), .int .u8 (B 4), .int .u8 (B 5), .int .u8 (B 6), .int .u8 (B 7), .int .u8 (B 8), .int .u8 (B 9), .int .u8 (B 10), .int .u8 (B 11), .int .u8 (B 12), .int .u8 (B 13), .int .u8 (B 14), .int .u8 (B 15)] 23) := ⟨_, rfl⟩
  rw [← hW1] at c6 c8 hal hsz
  have HW : Hid (W1 = w.alloc (.cells #[.int .u8 (B 0), .int .u8 (B 1), .int .u8 (B 2), .int .u8 (B 3), .int .u8 (B 4), .int .u8 (B 5), .int .u8 (B 6), .int .u8 (B 7), .int .u8 (B 8), .int .u8 (B 9), .int .u8 (B 10), .int .u8 (B 11), .int .u8 (B 12), .int .u8 (B 13), .int .u8 (B 14), .int .u8 (B 15)] 23)) := hW1
  have HSZ : Hid (W1.heap.size = w.heap.size + 1) := hsz
  clear hB hv hW1 hsz
  obtain ⟨b60, b61⟩ := b6
  obtain ⟨b80, b81⟩ := b8
  go_enter Try.func4, Try.ntmps4
  go_wp2_with fail
  rw [← HW.out]
  refine (HFM.out W1).mono ?_
  rintro e w2 ⟨s, rfl, hs, hsi, hb⟩
  have HS : Hid (s.size = 36 ∧ ∀ i (h : i < s.size), ((s[i]'h).toNat : Int) = (txt B 16).getD i 0) := ⟨hs, hsi⟩
  have d6 : w2.cell? ⟨w.heap.size, 6, none⟩ = some (.int .u8 (B 6)) := (hb.cell (by rw [HSZ.out]; exact Nat.lt_succ_self _)).trans c6
  have d8 : w2.cell? ⟨w.heap.size, 8, none⟩ = some (.int .u8 (B 8)) := (hb.cell (by rw [HSZ.out]; exact Nat.lt_succ_self _)).trans c8
  have hbe : Below w.heap.size w w2 := hal.trans (hb.mono (by rw [HSZ.out]; exact Nat.le_succ _))
  clear hs hsi hb c6 c8 hal HFM
  obtain ⟨B6, h6⟩ : ∃ n, n = B 6 := ⟨_, rfl⟩
  obtain ⟨B8, h8⟩ : ∃ n, n = B 8 := ⟨_, rfl⟩
  rw [← h6] at d6 t1 b60 b61
  rw [← h8] at d8 t2 b80 b81
  clear h6 h8
  cases x <;> cases y
  all_goals
    simp only [Bool.and_true, Bool.and_false] at hxy
    subst hxy
    go_wp2_with (go_at_call 7; refine (HVT.out s _ HS.out).mono ?_; rintro e w' ⟨rfl, rfl⟩)
    go_ret
    exact ⟨rfl, hbe⟩

theorem walk_any (B : Nat → Int) (w : World) (hB : ∀ j, j < 16 → 0 ≤ B j ∧ B j ≤ 255) :
    Calls Try.prog 4 #[.agg #[.int .u8 (B 0), .int .u8 (B 1), .int .u8 (B 2), .int .u8 (B 3), .int .u8 (B 4), .int .u8 (B 5), .int .u8 (B 6), .int .u8 (B 7), .int .u8 (B 8), .int .u8 (B 9), .int .u8 (B 10), .int .u8 (B 11), .int .u8 (B 12), .int .u8 (B 13), .int .u8 (B 14), .int .u8 (B 15)]] w fun e w' => e = .returned (.bool true) ∧ Below w.heap.size w w' := by
  refine walk_case B _ _ _ w hB rfl rfl rfl ?_
  rw [Bool.eq_iff_iff]
  simp
end Go.Proofs.Qxb6000077a.uu
