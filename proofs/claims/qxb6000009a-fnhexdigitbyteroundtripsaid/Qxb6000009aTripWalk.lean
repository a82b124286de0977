/-
  The walk of FnHexDigitByteRoundTrip (4).
-/
import Derived.Test.Qxb6000009aSpecWalk
namespace Go.Proofs.Qxb6000009a.hex
open Go.ChangeShapes Go.WideShapes Go.ChangeAt Go.RowKit
set_option linter.unusedVariables false

/-- 'c is a hex digit of value d'. -/
def IsDigit (c d : Int) : Prop := (48 ≤ c ∧ c ≤ 57 ∧ d = c - 48) ∨ (97 ≤ c ∧ c ≤ 102 ∧ d = c - 87) ∨ (65 ≤ c ∧ c ≤ 70 ∧ d = c - 55)
theorem low_is (x : Int) (h0 : 0 ≤ x) (h1 : x < 16) (h) : IsDigit ((({ data := #[48, 49, 50, 51, 52, 53, 54, 55, 56, 57, 97, 98, 99, 100, 101, 102] } : ByteArray)[x.toNat]'h).toNat : Int) x := by
  rw [low_at x.toNat (by omega)]
  unfold IsDigit
  split <;> omega
theorem up_is (x : Int) (h0 : 0 ≤ x) (h1 : x < 16) (h) : IsDigit ((({ data := #[48, 49, 50, 51, 52, 53, 54, 55, 56, 57, 65, 66, 67, 68, 69, 70] } : ByteArray)[x.toNat]'h).toNat : Int) x := by
  rw [up_at x.toNat (by omega)]
  unfold IsDigit
  split <;> omega

theorem or_all : ∀ n : Fin 256, bits BinOp.or IntKind.u8 ((n.val : Int) / 16 * 16) ((n.val : Int) % 16) = (n.val : Int) := by decide +kernel
theorem or_byte (b : Int) (h0 : 0 ≤ b) (h1 : b ≤ 255) : (bits BinOp.or IntKind.u8 (b / 16 * 16) (b % 16) == b) = true := by
  obtain ⟨n, rfl⟩ : ∃ n : Nat, b = n := ⟨b.toNat, by omega⟩
  have := or_all ⟨n, by omega⟩
  simpa using this

set_option maxHeartbeats 400000 in
theorem trip_walk (b : Int) (p q : Bool) (w : World) (hb0 : 0 ≤ b) (hb1 : b ≤ 255) :
    Calls Try.prog 4 #[.int .u8 b, .bool p, .bool q] w fun e w' => e = .returned (.bool true) ∧ w' = w := by
  have d0 : 0 ≤ b / 16 := by omega
  have d1 : b / 16 < 16 := by omega
  have m0 : 0 ≤ b % 16 := by omega
  have m1 : b % 16 < 16 := by omega
  have hor := or_byte b hb0 hb1
  cases p <;> cases q
  all_goals
    go_enter Try.func4, Try.ntmps4
    go_wp2_with fail
    refine (zz_is _ (b / 16) _ (by first | exact low_is _ d0 d1 _ | exact up_is _ d0 d1 _)).mono ?_
    rintro e w1 ⟨rfl, rfl⟩
    go_wp2_with fail
    refine (zz_is _ (b % 16) _ (by first | exact low_is _ m0 m1 _ | exact up_is _ m0 m1 _)).mono ?_
    rintro e w1 ⟨rfl, rfl⟩
    go_wp2
    go_ret
    exact ⟨rfl, rfl⟩
end Go.Proofs.Qxb6000009a.hex
