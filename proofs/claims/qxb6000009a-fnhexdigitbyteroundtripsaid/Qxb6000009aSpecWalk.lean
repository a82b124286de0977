/-
  The walk of FnHexDigitSpec (3).
-/
import Derived.Test.Qxb6000009aHex
namespace Go.Proofs.Qxb6000009a.hex
open Go.ChangeShapes Go.WideShapes Go.ChangeAt Go.RowKit
set_option linter.unusedVariables false

/-! ### The digits of the two tables -/
theorem low_at (k : Nat) (hk : k < 16) (h : k < ({ data := #[48, 49, 50, 51, 52, 53, 54, 55, 56, 57, 97, 98, 99, 100, 101, 102] } : ByteArray).size) :
    ((({ data := #[48, 49, 50, 51, 52, 53, 54, 55, 56, 57, 97, 98, 99, 100, 101, 102] } : ByteArray)[k]'h).toNat : Int) = if k < 10 then 48 + (k : Int) else 87 + (k : Int) := by
  rcases (show k = 0 ∨ k = 1 ∨ k = 2 ∨ k = 3 ∨ k = 4 ∨ k = 5 ∨ k = 6 ∨ k = 7 ∨ k = 8 ∨ k = 9 ∨ k = 10 ∨ k = 11 ∨ k = 12 ∨ k = 13 ∨ k = 14 ∨ k = 15 from by omega) with rfl | rfl | rfl | rfl | rfl | rfl | rfl | rfl | rfl | rfl | rfl | rfl | rfl | rfl | rfl | rfl <;> rfl
theorem up_at (k : Nat) (hk : k < 16) (h : k < ({ data := #[48, 49, 50, 51, 52, 53, 54, 55, 56, 57, 65, 66, 67, 68, 69, 70] } : ByteArray).size) :
    ((({ data := #[48, 49, 50, 51, 52, 53, 54, 55, 56, 57, 65, 66, 67, 68, 69, 70] } : ByteArray)[k]'h).toNat : Int) = if k < 10 then 48 + (k : Int) else 55 + (k : Int) := by
  rcases (show k = 0 ∨ k = 1 ∨ k = 2 ∨ k = 3 ∨ k = 4 ∨ k = 5 ∨ k = 6 ∨ k = 7 ∨ k = 8 ∨ k = 9 ∨ k = 10 ∨ k = 11 ∨ k = 12 ∨ k = 13 ∨ k = 14 ∨ k = 15 from by omega) with rfl | rfl | rfl | rfl | rfl | rfl | rfl | rfl | rfl | rfl | rfl | rfl | rfl | rfl | rfl | rfl <;> rfl
theorem low_dec (k : Nat) (hk : k < 10) (h) : ((({ data := #[48, 49, 50, 51, 52, 53, 54, 55, 56, 57, 97, 98, 99, 100, 101, 102] } : ByteArray)[k]'h).toNat : Int) = 48 + (k : Int) := by
  rw [low_at k (by omega), if_pos hk]
theorem low_alp (k : Nat) (hk : k < 16) (h9 : ¬ k < 10) (h) : ((({ data := #[48, 49, 50, 51, 52, 53, 54, 55, 56, 57, 97, 98, 99, 100, 101, 102] } : ByteArray)[k]'h).toNat : Int) = 87 + (k : Int) := by
  rw [low_at k hk, if_neg h9]
theorem up_dec (k : Nat) (hk : k < 10) (h) : ((({ data := #[48, 49, 50, 51, 52, 53, 54, 55, 56, 57, 65, 66, 67, 68, 69, 70] } : ByteArray)[k]'h).toNat : Int) = 48 + (k : Int) := by
  rw [up_at k (by omega), if_pos hk]
theorem up_alp (k : Nat) (hk : k < 16) (h9 : ¬ k < 10) (h) : ((({ data := #[48, 49, 50, 51, 52, 53, 54, 55, 56, 57, 65, 66, 67, 68, 69, 70] } : ByteArray)[k]'h).toNat : Int) = 55 + (k : Int) := by
  rw [up_at k hk, if_neg h9]

/-- c is none of the first k digits of either table. -/
def NoDigit (c : Int) (k : Nat) : Prop := ∀ j : Nat, j < k → (j < 10 → c ≠ 48 + j) ∧ (10 ≤ j → c ≠ 87 + j ∧ c ≠ 55 + j)
theorem noDigit_dec {c : Int} {k : Nat} (h : NoDigit c k) (hk : k < 10) (hc : ¬ c = 48 + (k : Int)) : NoDigit c (k + 1) := by
  intro j hj
  by_cases e : j = k
  · subst e; exact ⟨fun _ => hc, fun h => absurd h (by omega)⟩
  · exact h j (by omega)
theorem noDigit_alp {c : Int} {k : Nat} (h : NoDigit c k) (hk : ¬ k < 10) (h1 : ¬ c = 87 + (k : Int)) (h2 : ¬ c = 55 + (k : Int)) : NoDigit c (k + 1) := by
  intro j hj
  by_cases e : j = k
  · subst e; exact ⟨fun h => absurd h hk, fun _ => ⟨h1, h2⟩⟩
  · exact h j (by omega)
theorem noDigit_all {c : Int} (h : NoDigit c 16) (h0 : 0 ≤ c) : c < 48 ∨ (57 < c ∧ c < 65) ∨ (70 < c ∧ c < 97) ∨ 102 < c := by
  by_cases a : 48 ≤ c ∧ c ≤ 57
  · exact absurd (by omega) ((h (c - 48).toNat (by omega)).1 (by omega))
  by_cases b : 97 ≤ c ∧ c ≤ 102
  · exact absurd (by omega) ((h (c - 87).toNat (by omega)).2 (by omega)).1
  by_cases d : 65 ≤ c ∧ c ≤ 70
  · exact absurd (by omega) ((h (c - 55).toNat (by omega)).2 (by omega)).2
  omega

/-- A hex digit by its value. -/
theorem zz_is (c d : Int) (w : World) (h : (48 ≤ c ∧ c ≤ 57 ∧ d = c - 48) ∨ (97 ≤ c ∧ c ≤ 102 ∧ d = c - 87) ∨ (65 ≤ c ∧ c ≤ 70 ∧ d = c - 55)) :
    Calls Try.prog 6 #[.int .u8 c] w fun e w' => e = .returned (.tuple #[.int .u8 d, .bool true]) ∧ w = w' := by
  rcases h with ⟨h1, h2, rfl⟩ | ⟨h1, h2, rfl⟩ | ⟨h1, h2, rfl⟩
  · exact zz_dec c w h1 h2
  · have e : c - 97 + 10 = c - 87 := by omega
    have h := zz_low c w h1 h2
    rw [e] at h
    exact h
  · have e : c - 65 + 10 = c - 55 := by omega
    have h := zz_up c w h1 h2
    rw [e] at h
    exact h

set_option maxHeartbeats 1000000 in
theorem spec_walk (c : Int) (w : World) (hc0 : 0 ≤ c) (hc1 : c ≤ 255) :
    Calls Try.prog 3 #[.int .u8 c] w fun e w' => e = .returned (.bool true) ∧ w' = w := by
  go_enter Try.func3, Try.ntmps3
  go_wp2
  go_loopg [3, 4, 5] 16 (fun gk want found v wr => ∃ k : Nat, Hid (gk = 16 - k) ∧ k ≤ 16 ∧ v = .int .i64 k ∧ want = .int .u8 0 ∧ found = .bool false ∧ Hid (wr = w) ∧ Hid (NoDigit c k))
  case atStart => exact ⟨0, rfl, by omega, rfl, rfl, rfl, rfl, fun j h => absurd h (by omega)⟩
  case round =>
    obtain ⟨k, HG, hk, rfl, rfl, rfl, HW, HN⟩ := hrel
    by_cases hlt : k < 16
    · by_cases h10 : k < 10
      · have hL := low_dec k h10
        have hU := up_dec k h10
        by_cases hc : c = 48 + (k : Int)
        · subst hc
          go_wp2_with (go_at_call 6; refine (zz_is _ (k : Int) _ (by omega)).mono ?_; rintro e w' ⟨rfl, rfl⟩)
          go_ret
          exact ⟨rfl, HW.out⟩
        · have t1 : (48 + (k : Int) == c) = false := by simp; omega
          go_wp2
          go_roundg (16 - (k + 1))
          case rel => exact ⟨k + 1, rfl, by omega, by go_num, rfl, rfl, HW, noDigit_dec HN.out h10 hc⟩
          case measure => rw [HG.out]; omega
      · have hL := low_alp k hlt h10
        have hU := up_alp k hlt h10
        by_cases hc : c = 87 + (k : Int)
        · subst hc
          go_wp2_with (go_at_call 6; refine (zz_is _ (k : Int) _ (by omega)).mono ?_; rintro e w' ⟨rfl, rfl⟩)
          go_ret
          exact ⟨rfl, HW.out⟩
        · by_cases hc2 : c = 55 + (k : Int)
          · subst hc2
            have t1 : (87 + (k : Int) == 55 + (k : Int)) = false := by simp
            go_wp2_with (go_at_call 6; refine (zz_is _ (k : Int) _ (by omega)).mono ?_; rintro e w' ⟨rfl, rfl⟩)
            go_ret
            exact ⟨rfl, HW.out⟩
          · have t1 : (87 + (k : Int) == c) = false := by simp; omega
            have t2 : (55 + (k : Int) == c) = false := by simp; omega
            go_wp2
            go_roundg (16 - (k + 1))
            case rel => exact ⟨k + 1, rfl, by omega, by go_num, rfl, rfl, HW, noDigit_alp HN.out h10 hc hc2⟩
            case measure => rw [HG.out]; omega
    · obtain rfl : k = 16 := by omega
      have hn := noDigit_all HN.out hc0
      go_wp2_with (go_at_call 6; refine (zz_none _ _ hn).mono ?_; rintro e w' ⟨rfl, rfl⟩)
      go_ret
      exact ⟨rfl, HW.out⟩
end Go.Proofs.Qxb6000009a.hex
