/-
  The plain law and the walk of FnValidExactlyVersion7Variant10Encodings (4).
-/
import Derived.Test.Qxb6000077aFormat
import Derived.Laws.Rows
namespace Go.Proofs.Qxb6000077a.uu
open Go.ChangeShapes Go.WideShapes Go.ChangeAt Go.RowKit
set_option linter.unusedVariables false

/-! ### The plain law -/
theorem txt_list (B : Nat → Int) : txt B 16 = [hexD (B 0 / 16), hexD (B 0 % 16), hexD (B 1 / 16), hexD (B 1 % 16), hexD (B 2 / 16), hexD (B 2 % 16), hexD (B 3 / 16), hexD (B 3 % 16), 45, hexD (B 4 / 16), hexD (B 4 % 16), hexD (B 5 / 16), hexD (B 5 % 16), 45, hexD (B 6 / 16), hexD (B 6 % 16), hexD (B 7 / 16), hexD (B 7 % 16), 45, hexD (B 8 / 16), hexD (B 8 % 16), hexD (B 9 / 16), hexD (B 9 % 16), 45, hexD (B 10 / 16), hexD (B 10 % 16), hexD (B 11 / 16), hexD (B 11 % 16), hexD (B 12 / 16), hexD (B 12 % 16), hexD (B 13 / 16), hexD (B 13 % 16), hexD (B 14 / 16), hexD (B 14 % 16), hexD (B 15 / 16), hexD (B 15 % 16)] := by simp [txt, sep]
theorem hexD_range {n : Int} (h0 : 0 ≤ n) (h1 : n < 16) : (48 ≤ hexD n ∧ hexD n ≤ 57) ∨ (97 ≤ hexD n ∧ hexD n ≤ 102) := by
  unfold hexD
  split <;> omega
theorem at14 (B : Nat → Int) : (txt B 16).getD 14 0 = hexD (B 6 / 16) := by rw [txt_list]; rfl
theorem at19 (B : Nat → Int) : (txt B 16).getD 19 0 = hexD (B 8 / 16) := by rw [txt_list]; rfl
theorem fits_hex {i : Nat} {n : Int} (h : i ≠ 8 ∧ i ≠ 13 ∧ i ≠ 18 ∧ i ≠ 23 ∧ i ≠ 14 ∧ i ≠ 19) (h0 : 0 ≤ n) (h1 : n < 16) : Fits i (hexD n) :=
  .inr (.inr (.inr ⟨h, hexD_range h0 h1⟩))
theorem hi_bd {n : Int} (h : 0 ≤ n ∧ n ≤ 255) : 0 ≤ n / 16 ∧ n / 16 < 16 := by omega
theorem lo_bd {n : Int} (h : 0 ≤ n ∧ n ≤ 255) : 0 ≤ n % 16 ∧ n % 16 < 16 := by omega
theorem fits_at (B : Nat → Int) (hB : ∀ j, j < 16 → 0 ≤ B j ∧ B j ≤ 255) (i : Nat) (hi : i < 36) (h14 : i ≠ 14) (h19 : i ≠ 19) : Fits i ((txt B 16).getD i 0) := by
  rw [txt_list]
  rcases (show i = 0 ∨ i = 1 ∨ i = 2 ∨ i = 3 ∨ i = 4 ∨ i = 5 ∨ i = 6 ∨ i = 7 ∨ i = 8 ∨ i = 9 ∨ i = 10 ∨ i = 11 ∨ i = 12 ∨ i = 13 ∨ i = 14 ∨ i = 15 ∨ i = 16 ∨ i = 17 ∨ i = 18 ∨ i = 19 ∨ i = 20 ∨ i = 21 ∨ i = 22 ∨ i = 23 ∨ i = 24 ∨ i = 25 ∨ i = 26 ∨ i = 27 ∨ i = 28 ∨ i = 29 ∨ i = 30 ∨ i = 31 ∨ i = 32 ∨ i = 33 ∨ i = 34 ∨ i = 35 from by omega) with rfl | rfl | rfl | rfl | rfl | rfl | rfl | rfl | rfl | rfl | rfl | rfl | rfl | rfl | rfl | rfl | rfl | rfl | rfl | rfl | rfl | rfl | rfl | rfl | rfl | rfl | rfl | rfl | rfl | rfl | rfl | rfl | rfl | rfl | rfl | rfl
  · exact fits_hex (by omega) (hi_bd (hB 0 (by omega))).1 (hi_bd (hB 0 (by omega))).2
  · exact fits_hex (by omega) (lo_bd (hB 0 (by omega))).1 (lo_bd (hB 0 (by omega))).2
  · exact fits_hex (by omega) (hi_bd (hB 1 (by omega))).1 (hi_bd (hB 1 (by omega))).2
  · exact fits_hex (by omega) (lo_bd (hB 1 (by omega))).1 (lo_bd (hB 1 (by omega))).2
  · exact fits_hex (by omega) (hi_bd (hB 2 (by omega))).1 (hi_bd (hB 2 (by omega))).2
  · exact fits_hex (by omega) (lo_bd (hB 2 (by omega))).1 (lo_bd (hB 2 (by omega))).2
  · exact fits_hex (by omega) (hi_bd (hB 3 (by omega))).1 (hi_bd (hB 3 (by omega))).2
  · exact fits_hex (by omega) (lo_bd (hB 3 (by omega))).1 (lo_bd (hB 3 (by omega))).2
  · exact .inl ⟨by omega, rfl⟩
  · exact fits_hex (by omega) (hi_bd (hB 4 (by omega))).1 (hi_bd (hB 4 (by omega))).2
  · exact fits_hex (by omega) (lo_bd (hB 4 (by omega))).1 (lo_bd (hB 4 (by omega))).2
  · exact fits_hex (by omega) (hi_bd (hB 5 (by omega))).1 (hi_bd (hB 5 (by omega))).2
  · exact fits_hex (by omega) (lo_bd (hB 5 (by omega))).1 (lo_bd (hB 5 (by omega))).2
  · exact .inl ⟨by omega, rfl⟩
  · exact absurd rfl h14
  · exact fits_hex (by omega) (lo_bd (hB 6 (by omega))).1 (lo_bd (hB 6 (by omega))).2
  · exact fits_hex (by omega) (hi_bd (hB 7 (by omega))).1 (hi_bd (hB 7 (by omega))).2
  · exact fits_hex (by omega) (lo_bd (hB 7 (by omega))).1 (lo_bd (hB 7 (by omega))).2
  · exact .inl ⟨by omega, rfl⟩
  · exact absurd rfl h19
  · exact fits_hex (by omega) (lo_bd (hB 8 (by omega))).1 (lo_bd (hB 8 (by omega))).2
  · exact fits_hex (by omega) (hi_bd (hB 9 (by omega))).1 (hi_bd (hB 9 (by omega))).2
  · exact fits_hex (by omega) (lo_bd (hB 9 (by omega))).1 (lo_bd (hB 9 (by omega))).2
  · exact .inl ⟨by omega, rfl⟩
  · exact fits_hex (by omega) (hi_bd (hB 10 (by omega))).1 (hi_bd (hB 10 (by omega))).2
  · exact fits_hex (by omega) (lo_bd (hB 10 (by omega))).1 (lo_bd (hB 10 (by omega))).2
  · exact fits_hex (by omega) (hi_bd (hB 11 (by omega))).1 (hi_bd (hB 11 (by omega))).2
  · exact fits_hex (by omega) (lo_bd (hB 11 (by omega))).1 (lo_bd (hB 11 (by omega))).2
  · exact fits_hex (by omega) (hi_bd (hB 12 (by omega))).1 (hi_bd (hB 12 (by omega))).2
  · exact fits_hex (by omega) (lo_bd (hB 12 (by omega))).1 (lo_bd (hB 12 (by omega))).2
  · exact fits_hex (by omega) (hi_bd (hB 13 (by omega))).1 (hi_bd (hB 13 (by omega))).2
  · exact fits_hex (by omega) (lo_bd (hB 13 (by omega))).1 (lo_bd (hB 13 (by omega))).2
  · exact fits_hex (by omega) (hi_bd (hB 14 (by omega))).1 (hi_bd (hB 14 (by omega))).2
  · exact fits_hex (by omega) (lo_bd (hB 14 (by omega))).1 (lo_bd (hB 14 (by omega))).2
  · exact fits_hex (by omega) (hi_bd (hB 15 (by omega))).1 (hi_bd (hB 15 (by omega))).2
  · exact fits_hex (by omega) (lo_bd (hB 15 (by omega))).1 (lo_bd (hB 15 (by omega))).2
theorem hex7 {n : Int} (h0 : 0 ≤ n) (h1 : n < 16) : hexD n = 55 ↔ n = 7 := by
  unfold hexD
  split <;> omega
theorem hex89ab {n : Int} (h0 : 0 ≤ n) (h1 : n < 16) : (hexD n = 56 ∨ hexD n = 57 ∨ hexD n = 97 ∨ hexD n = 98) ↔ (8 ≤ n ∧ n ≤ 11) := by
  unfold hexD
  split <;> omega
end Go.Proofs.Qxb6000077a.uu
