/-
  The contracts of hexDigit (13) and uuidv7.Valid (7).
-/
import Derived.Test.Qxb6000077aRows
import Derived.WalkKit
import Derived.ProofKit
import Derived.Below
import Derived.Deep.LoopGhost
import Derived.Outline
namespace Go.Proofs.Qxb6000077a.uu
open Go.ChangeShapes Go.WideShapes Go.ChangeAt Go.RowKit
set_option linter.unusedVariables false

/-- The lower hex digit of n, 0 to 15. -/
def hexD (n : Int) : Int := if n < 10 then 48 + n else 87 + n

theorem hex_any (n : Int) (w : World) (h0 : 0 ≤ n) (h1 : n < 16) :
    Calls Try.prog 13 #[.int .u8 n] w fun e w' => e = .returned (.int .u8 (hexD n)) ∧ w = w' := by
  by_cases h : n < 10
  · have e : hexD n = 48 + n := if_pos h
    rw [e]
    clear e
    go_enter Try.func13, Try.ntmps13
    go_wp2
    go_ret
    exact ⟨rfl, rfl⟩
  · have e : hexD n = 97 + n - 10 := by unfold hexD; rw [if_neg h]; omega
    rw [e]
    clear e
    go_enter Try.func13, Try.ntmps13
    go_wp2
    go_ret
    exact ⟨rfl, rfl⟩

/-- What Valid asks of the i-th byte. -/
def Fits (i : Nat) (c : Int) : Prop :=
  ((i = 8 ∨ i = 13 ∨ i = 18 ∨ i = 23) ∧ c = 45) ∨ (i = 14 ∧ c = 55) ∨ (i = 19 ∧ (c = 56 ∨ c = 57 ∨ c = 97 ∨ c = 98)) ∨
  ((i ≠ 8 ∧ i ≠ 13 ∧ i ≠ 18 ∧ i ≠ 23 ∧ i ≠ 14 ∧ i ≠ 19) ∧ ((48 ≤ c ∧ c ≤ 57) ∨ (97 ≤ c ∧ c ≤ 102)))

set_option maxHeartbeats 2000000 in
theorem valid_walk (s : ByteArray) (C : Nat → Int) (m : Nat) (w : World) (hs : s.size = 36) (hC : ∀ i (h : i < s.size), ((s[i]'h).toNat : Int) = C i)
    (hm : m ≤ 36) (hfit : ∀ i, i < m → Fits i (C i)) (hstop : m = 36 ∨ (m = 14 ∧ C 14 ≠ 55) ∨ (m = 19 ∧ C 19 ≠ 56 ∧ C 19 ≠ 57 ∧ C 19 ≠ 97 ∧ C 19 ≠ 98)) :
    Calls Try.prog 7 #[.string s] w fun e w' => e = .returned (.bool (decide (m = 36))) ∧ w = w' := by
  have HF : Hid (∀ i, i < m → Fits i (C i)) := hfit
  have HS : Hid (m = 36 ∨ (m = 14 ∧ C 14 ≠ 55) ∨ (m = 19 ∧ C 19 ≠ 56 ∧ C 19 ≠ 57 ∧ C 19 ≠ 97 ∧ C 19 ≠ 98)) := hstop
  have HC : Hid (∀ i (h : i < s.size), ((s[i]'h).toNat : Int) = C i) := hC
  clear hfit hstop hC
  go_enter Try.func7, Try.ntmps7
  go_wp2
  go_loopg [10] 36 (fun gk i wr => ∃ k : Nat, Hid (gk = 36 - k) ∧ k ≤ m ∧ i = .int .i64 k ∧ Hid (w = wr))
  case atStart => exact ⟨0, rfl, Nat.zero_le _, rfl, rfl⟩
  case round =>
    obtain ⟨k, HG, hk, rfl, HW⟩ := hrel
    by_cases hlt : k < m
    · have hf := HF.out k hlt
      obtain ⟨c, hc⟩ : ∃ c, c = C k := ⟨_, rfl⟩
      have hck : ∀ h, ((s[k]'h).toNat : Int) = c := fun h => by rw [hc]; exact HC.out k h
      rw [← hc] at hf
      clear hc
      have hk36 : (k : Int) < 36 := by omega
      unfold Fits at hf
      rcases hf with ⟨h8 | h8 | h8 | h8, rfl⟩ | ⟨h8, rfl⟩ | ⟨h8, rfl | rfl | rfl | rfl⟩ | ⟨⟨n1, n2, n3, n4, n5, n6⟩, hr⟩
      · subst h8
        go_wp2
        go_roundg (36 - (8 + 1))
        case rel => exact ⟨8 + 1, rfl, by omega, by go_num, HW⟩
        case measure => rw [HG.out]; omega
      · subst h8
        go_wp2
        go_roundg (36 - (13 + 1))
        case rel => exact ⟨13 + 1, rfl, by omega, by go_num, HW⟩
        case measure => rw [HG.out]; omega
      · subst h8
        go_wp2
        go_roundg (36 - (18 + 1))
        case rel => exact ⟨18 + 1, rfl, by omega, by go_num, HW⟩
        case measure => rw [HG.out]; omega
      · subst h8
        go_wp2
        go_roundg (36 - (23 + 1))
        case rel => exact ⟨23 + 1, rfl, by omega, by go_num, HW⟩
        case measure => rw [HG.out]; omega
      · subst h8
        go_wp2
        go_roundg (36 - (14 + 1))
        case rel => exact ⟨14 + 1, rfl, by omega, by go_num, HW⟩
        case measure => rw [HG.out]; omega
      · subst h8
        go_wp2
        go_roundg (36 - (19 + 1))
        case rel => exact ⟨19 + 1, rfl, by omega, by go_num, HW⟩
        case measure => rw [HG.out]; omega
      · subst h8
        go_wp2
        go_roundg (36 - (19 + 1))
        case rel => exact ⟨19 + 1, rfl, by omega, by go_num, HW⟩
        case measure => rw [HG.out]; omega
      · subst h8
        go_wp2
        go_roundg (36 - (19 + 1))
        case rel => exact ⟨19 + 1, rfl, by omega, by go_num, HW⟩
        case measure => rw [HG.out]; omega
      · subst h8
        go_wp2
        go_roundg (36 - (19 + 1))
        case rel => exact ⟨19 + 1, rfl, by omega, by go_num, HW⟩
        case measure => rw [HG.out]; omega
      · have e1 : ((k : Int) == 8) = false := by simp; omega
        have e2 : ((k : Int) == 13) = false := by simp; omega
        have e3 : ((k : Int) == 18) = false := by simp; omega
        have e4 : ((k : Int) == 23) = false := by simp; omega
        have e5 : ((k : Int) == 14) = false := by simp; omega
        have e6 : ((k : Int) == 19) = false := by simp; omega
        clear n1 n2 n3 n4 n5 n6
        rcases hr with ⟨r1, r2⟩ | ⟨r1, r2⟩
        all_goals
          go_wp2
          go_roundg (36 - (k + 1))
          case rel => exact ⟨k + 1, rfl, by omega, by go_num, HW⟩
          case measure => rw [HG.out]; omega
    · obtain rfl : k = m := by omega
      rcases HS.out with h | ⟨h, h1⟩ | ⟨h, h1, h2, h3, h4⟩
      · subst h
        go_wp2
        go_ret
        exact ⟨rfl, HW⟩
      · subst h
        obtain ⟨c, hc⟩ : ∃ c, c = C 14 := ⟨_, rfl⟩
        have hck : ∀ h, ((s[14]'h).toNat : Int) = c := fun h => by rw [hc]; exact HC.out 14 h
        rw [← hc] at h1
        clear hc
        have e1 : (c != 55) = true := by simpa using h1
        go_wp2
        go_ret
        exact ⟨rfl, HW⟩
      · subst h
        obtain ⟨c, hc⟩ : ∃ c, c = C 19 := ⟨_, rfl⟩
        have hck : ∀ h, ((s[19]'h).toNat : Int) = c := fun h => by rw [hc]; exact HC.out 19 h
        rw [← hc] at h1 h2 h3 h4
        clear hc
        have e1 : (c != 56) = true := by simpa using h1
        have e2 : (c != 57) = true := by simpa using h2
        have e3 : (c != 97) = true := by simpa using h3
        have e4 : (c != 98) = true := by simpa using h4
        go_wp2
        go_ret
        exact ⟨rfl, HW⟩
end Go.Proofs.Qxb6000077a.uu
