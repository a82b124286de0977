/-
  'Rows.FnValidExactlyVersion7Variant10EncodingsSaid', PROVED. The frame is the one that the shells of the other seats bear ('Below'), at one parameter that is an array of 16 bytes by value; the array is opened after the guide's example of a range over an array.
-/
import Derived.Test.Qxb6000077aRows
import Derived.WalkKit
import Derived.ProofKit
import Derived.OpenShut
import Derived.ShutString
import Derived.ChangeOld
import Derived.Below
import Derived.Test.Qxb6000077aWalk
namespace Go.Proofs.Qxb6000077a.fnValidExactlyVersion7Variant10Encodings
open Go.ChangeShapes Go.WideShapes Go.ChangeAt Go.RowKit
set_option linter.unusedVariables false

theorem own : ownKnob Try.prog.godebug = none := by kernel_rfl
theorem laidOut : laidOutB Try.prog = true := by kernel_rfl
theorem cells5 : Try.prog.cellsOf 5 = 1 := by kernel_rfl
theorem cells23 : Try.prog.cellsOf 23 = 16 := by kernel_rfl

/-! ### The array of 16 bytes, opened -/
def intAt (cs : Array Value) (j : Nat) : Int := match cs[j]? with | some (.int _ n) => n | _ => 0
theorem arr_ext (cs : Array Value) (B : Nat → Int) (hsz : cs.size = 16) (h : ∀ j, j < 16 → cs[j]? = some (.int .u8 (B j))) : cs = #[.int .u8 (B 0), .int .u8 (B 1), .int .u8 (B 2), .int .u8 (B 3), .int .u8 (B 4), .int .u8 (B 5), .int .u8 (B 6), .int .u8 (B 7), .int .u8 (B 8), .int .u8 (B 9), .int .u8 (B 10), .int .u8 (B 11), .int .u8 (B 12), .int .u8 (B 13), .int .u8 (B 14), .int .u8 (B 15)] := by
  apply Array.ext
  · simp [hsz]
  · intro j h1 h2
    have hj : j < 16 := by omega
    have e := h j hj
    rw [Array.getElem?_eq_getElem h1] at e
    have e' : cs[j] = .int .u8 (B j) := Option.some.inj e
    rw [e']
    rcases (show j = 0 ∨ j = 1 ∨ j = 2 ∨ j = 3 ∨ j = 4 ∨ j = 5 ∨ j = 6 ∨ j = 7 ∨ j = 8 ∨ j = 9 ∨ j = 10 ∨ j = 11 ∨ j = 12 ∨ j = 13 ∨ j = 14 ∨ j = 15 from by omega) with rfl | rfl | rfl | rfl | rfl | rfl | rfl | rfl | rfl | rfl | rfl | rfl | rfl | rfl | rfl | rfl <;> rfl
theorem open_arr {H : Type} {enc : TypeId × Value → H} {W : World} {base fuel : Nat} {sp : Nat → Bool} {held : Bool} {cs : Array Value} {x : DataW H × List MemPlace} (hsz : cs.size = 16)
    (hf : DataW.trod enc Try.prog W base sp held fuel 23 cs.toList = some x) :
    ∃ B : Nat → Int, cs = #[.int .u8 (B 0), .int .u8 (B 1), .int .u8 (B 2), .int .u8 (B 3), .int .u8 (B 4), .int .u8 (B 5), .int .u8 (B 6), .int .u8 (B 7), .int .u8 (B 8), .int .u8 (B 9), .int .u8 (B 10), .int .u8 (B 11), .int .u8 (B 12), .int .u8 (B 13), .int .u8 (B 14), .int .u8 (B 15)] ∧ ∀ j, j < 16 → (Lit.int .u8 (B j)).wf = true := by
  obtain ⟨xs, m, _, _, _, hxl, hel⟩ := DataW.trod_array Try.underlying23 hf
  have key : ∀ j, j < 16 → ∃ n : Int, cs[j]? = some (.int .u8 n) ∧ (Lit.int .u8 n).wf = true := by
    intro j hj
    have e := hel j hj
    rw [cells5, Nat.mul_one] at e
    have hjl : j < cs.toList.length := by simp; omega
    have hjx : j < xs.length := by omega
    rw [List.getElem?_eq_getElem hjx, List.drop_eq_getElem_cons hjl, List.take_succ_cons, List.take_zero] at e
    obtain ⟨n, hn, _, hw⟩ := DataW.trod_int Try.underlying5 e
    refine ⟨n, ?_, hw⟩
    have hn' : cs.toList[j] = .int .u8 n := by simpa using hn
    rw [← Array.getElem?_toList, List.getElem?_eq_getElem hjl, hn']
  refine ⟨intAt cs, arr_ext cs _ hsz (fun j hj => ?_), fun j hj => ?_⟩
  · obtain ⟨n, h1, _⟩ := key j hj
    unfold intAt
    rw [h1]
  · obtain ⟨n, h1, h2⟩ := key j hj
    unfold intAt
    rw [h1]
    exact h2

/-! ### THE ROW's STEP -/
set_option maxRecDepth 100000 in
theorem lifted (os : Os) (started : os.Started) (H : Type) (enc : TypeId × Value → H) :
    ReturnsInHanded {} Try.checked os 4 .any (Rows.fnValidExactlyVersion7Variant10EncodingsSpec.pre6 enc Try.prog Try.f4 Rows.fnValidExactlyVersion7Variant10EncodingsRow.domain false) (Rows.fnValidExactlyVersion7Variant10EncodingsSpec.post enc Try.prog Try.f4 false true false false) := by
  refine returnsInHanded_of_change (C := Try.checked) own started (by kernel_rfl) Try.func4
    (ChangeSpec.witness6 (enc := enc) (C := Try.checked) false ⟨#[], #[.agg #[.int .u8 0, .int .u8 0, .int .u8 0, .int .u8 0, .int .u8 0, .int .u8 0, .int .u8 0, .int .u8 0, .int .u8 0, .int .u8 0, .int .u8 0, .int .u8 0, .int .u8 0, .int .u8 0, .int .u8 0, .int .u8 0]], []⟩ 8 (by kernel_rfl) (by kernel_rfl) (by kernel_rfl) (by kernel_rfl)) ?_
  intro W base args ds gs before hval0 hW hcnd _
  have hval : ∀ (j : Nat) t v, Try.f4.params[j]? = some t → args[j]? = some v → Value.okWide Try.prog W .any base t v := hval0
  have hW' := hW
  obtain ⟨p, q, hA0, hV, rfl, hfz, hnd⟩ := hW
  have hA : DataW.TrodAll enc Try.prog W 0 (fun _ => true) true Try.f4.params.toList args.toList ds p := hA0
  rw [Try.params4] at hA hval
  obtain ⟨v0, vs0, d0, ds0, p0, q0, hargs, rfl, rfl, h0, r0⟩ := trodAll_cons hA
  obtain ⟨rfl, rfl, rfl⟩ := trodAll_nil r0
  obtain rfl : args = #[v0] := by cases args; simp_all
  obtain ⟨rfl, rfl⟩ := trodVars_none hV
  obtain ⟨cs, rfl, hsz, _⟩ : ∃ cs, v0 = .agg cs ∧ cs.size = Try.prog.cellsOf 23 ∧ Row.okWide Try.prog W .any base 23 cs := by
    have := hval 0 23 v0 rfl rfl
    simpa [Value.okWide, Try.underlying23] using this
  rw [cells23] at hsz
  have k0 := h0
  have lt0 : ∀ x ∈ p0, x.block < W.heap.size := by obtain ⟨m, hm⟩ := k0; exact DataW.trod_lt m _ _ _ hm
  obtain ⟨B, rfl, hw⟩ : ∃ B : Nat → Int, cs = #[.int .u8 (B 0), .int .u8 (B 1), .int .u8 (B 2), .int .u8 (B 3), .int .u8 (B 4), .int .u8 (B 5), .int .u8 (B 6), .int .u8 (B 7), .int .u8 (B 8), .int .u8 (B 9), .int .u8 (B 10), .int .u8 (B 11), .int .u8 (B 12), .int .u8 (B 13), .int .u8 (B 14), .int .u8 (B 15)] ∧ ∀ j, j < 16 → (Lit.int .u8 (B j)).wf = true := by
    obtain ⟨fuel, hf⟩ := h0
    exact open_arr hsz hf
  clear hA0 hval0
  refine (uu.walk_any B W (fun j hj => bounds_u8 (hw j hj))).mono fun e W' ⟨he, bel⟩ => ?_
  subst he
  exact ⟨_, rfl, _, _, _, [], _, [], hW', trodAll_mk1 (shut_bool Try.underlying4 _), (trodAll_cons_mk (Below.trod laidOut (by kernel_rfl) (of_decide_eq_true (by kernel_rfl)) k0 bel lt0) trodAll_mk0), rfl, bel.frame _, fun h => by cases h⟩

theorem over : Rows.fnValidExactlyVersion7Variant10EncodingsRow.holds Try.pinned (OpenSpec.ofChange Rows.fnValidExactlyVersion7Variant10EncodingsSpec) :=
  OpenClaim.holds_of_wide 4 Try.f4 rfl rfl rfl rfl rfl rfl rfl ⟨rfl, rfl, rfl, rfl, rfl⟩ rfl rfl rfl rfl rfl (by kernel_rfl) Try.func4 (by kernel_rfl)
    (of_decide_eq_true (by kernel_rfl)) (by unfold Func.isWrapper; first | (rw [if_pos (by decide +kernel)]; kernel_rfl) | (rw [if_neg (by decide +kernel)]; exact ⟨rfl, rfl⟩))
    (fun os started H enc _ => lifted os started H enc)

/-- ████ THE STATEMENT ████ -/
theorem proved : Rows.FnValidExactlyVersion7Variant10EncodingsSaid := over
#print axioms proved
end Go.Proofs.Qxb6000077a.fnValidExactlyVersion7Variant10Encodings
