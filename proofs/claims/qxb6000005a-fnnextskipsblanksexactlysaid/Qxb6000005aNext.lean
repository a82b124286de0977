/-
  The walks of the callees on the road of 'FnNextSkipsBlanksExactly': jwb1IsBlank (14), jwb1Clone (10), (*Walker).Next (12).
-/
import Derived.Test.Qxb6000005aRows
import Derived.WalkKit
import Derived.ProofKit
import Derived.Below
import Derived.Deep.QuietTactic
import Derived.BigQuiet
import Derived.Deep.LoopGhost
import Derived.Laws.CopyOwn
import Derived.Outline
import Derived.Lib.SliceRun
namespace Go.Proofs.Qxb6000005a.jw
open Go.ChangeShapes Go.WideShapes Go.ChangeAt Go.RowKit
set_option linter.unusedVariables false

/-- A blank: space, tab, line feed, carriage return. -/
def blankB (c : Int) : Bool := decide (c = 32 ∨ c = 9 ∨ c = 10 ∨ c = 13)
theorem blank_yes {c : Int} (h : c = 32 ∨ c = 9 ∨ c = 10 ∨ c = 13) : blankB c = true := decide_eq_true h
theorem blank_no {c : Int} (h1 : c ≠ 32) (h2 : c ≠ 9) (h3 : c ≠ 10) (h4 : c ≠ 13) : blankB c = false :=
  decide_eq_false (by rintro (h | h | h | h) <;> contradiction)

theorem isBlank_any (c : Int) (w : World) :
    Calls Try.prog 14 #[.int .u8 c] w fun e w' => e = .returned (.bool (blankB c)) ∧ w' = w := by
  by_cases h1 : c = 32
  · subst h1
    go_enter Try.func14, Try.ntmps14
    go_wp2
    go_ret
    exact ⟨rfl, rfl⟩
  by_cases h2 : c = 9
  · subst h2
    go_enter Try.func14, Try.ntmps14
    go_wp2
    go_ret
    exact ⟨rfl, rfl⟩
  by_cases h3 : c = 10
  · subst h3
    go_enter Try.func14, Try.ntmps14
    go_wp2
    go_ret
    exact ⟨rfl, rfl⟩
  by_cases h4 : c = 13
  · subst h4
    go_enter Try.func14, Try.ntmps14
    go_wp2
    go_ret
    exact ⟨rfl, rfl⟩
  have hb := blank_no h1 h2 h3 h4
  have HB : Hid (blankB c = false) := hb
  clear hb
  have e1 : (c == 32) = false := by simpa using h1
  have e2 : (c == 9) = false := by simpa using h2
  have e3 : (c == 10) = false := by simpa using h3
  have e4 : (c == 13) = false := by simpa using h4
  go_enter Try.func14, Try.ntmps14
  go_wp2
  go_ret
  exact ⟨by rw [HB.out]; rfl, rfl⟩

/-- 'make([]T, n)': THE WORLD IS A NEW BLOCK. -/
theorem wpList_make_exact {P : Program} (w : World) {ops : Array Oper} {rest : List Oper} {o : Oper} {a : Act} {Q : Exit → Act → World → Prop}
    (hg : o.guard = none) (l c : Operand) (t : TypeId) (hop : o.op = Op.makeSlice t l c)
    (e : TypeId) (i : TypeInfo) (z : Value) (size : Nat) (h1 : P.underlying t = some (.slice e)) (h2 : P.info? e = some i) (h3 : i.zero = some z) (h4 : i.size = size)
    (kl kc : IntKind) (L C : Int) (n : Nat) (hl : a.eval l = .int kl L) (hc : a.eval c = .int kc C) (hL : L = (n : Int)) (hC : C = (n : Int)) (b2 : (i.bytes : Int) * n ≤ 281474976710656) (b3 : (n : Int) ≤ 9223372036854775807)
    (hK : ∀ M : Array Value, M.size = n * size → wpList P ops Q rest (a.put o.dst (.slice (some ⟨w.heap.size, 0, none⟩) n n)) (w.alloc (.cells M e))) :
    wpList P ops Q (o :: rest) a w := by
  refine wpList_plain hg fun K hK' => ?_
  have hrun := run_make (P := P) w t e i z h1 h2 h3 kl kc n n (by omega) (Int.le_refl _) b2 b3
  simp only [Int.toNat_natCast, h4] at hrun
  subst hL
  subst hC
  unfold Oper.wp
  simp [execOp, hop, hl, hc, hrun, Result.andThen]
  exact hK' _ _ (hK _ (size_madeCells _ _))

theorem info5 : (Try.prog.info? 5).map (fun i => (i.zero, i.size, i.bytes)) = some (some (.int .u8 0), 1, 1) := by kernel_rfl

theorem cell_lt {w : World} {x : Addr} {v : Value} (h : w.cell? x = some v) : x.block < w.heap.size := by
  by_cases hlt : x.block < w.heap.size
  · exact hlt
  · have : w.heap[x.block]? = none := by simp; omega
    simp [World.cell?, this] at h

theorem add_block (x : Addr) (i : Nat) : (x.add i).block = x.block := by unfold Addr.add; split <;> rfl

/-- What the 'copy' of the clone does, and what its world holds. -/
theorem copy_eq (x : Addr) (len cap : Nat) (zs : List Int) (w : World) (hl : len ≤ cap) (hz : zs.length = cap) (M : Array Value) (hM : M.size = len * 1)
    (hc : ∀ i, i < zs.length → w.cell? (x.add i) = some (.int .u8 (zs.getD i 0))) :
    ∃ w2, (∀ ty, (Builtin.copy_ #[22, 22] ty #[.slice (some ⟨w.heap.size, 0, none⟩) len len, .slice (some x) len cap]).run Try.prog (w.alloc (.cells M 5)) = .ok (.int .i64 len) w2) ∧
      w2.heap[w.heap.size]? = some (.cells ((zs.take len).map (Value.int .u8)).toArray 5 (0, 0)) ∧ w2.heap.size = w.heap.size + 1 ∧ Below w.heap.size w w2 := by
  have hlen : ((zs.take len).map (Value.int .u8)).length = len := by simp; omega
  have hnew : (w.alloc (.cells M 5)).heap[w.heap.size]? = some (.cells M 5 (0, 0)) := by
    show (w.heap.push _)[w.heap.size]? = _
    simp
  have hrun := fun ty => run_copy_row Try.prog (w.alloc (.cells M 5)) 22 22 ty 5 w.heap.size 0 len len x len cap M 5 ((zs.take len).map (Value.int .u8)) Try.underlying22 (by kernel_rfl) hnew (by rw [hlen]; exact (Nat.min_self len).symm)
    (by
      intro j v hj
      have hjl : j < len := by
        have := (List.getElem?_eq_some_iff.1 hj).1
        rw [hlen] at this; exact this
      have hz' := hc j (by omega)
      rw [World.cell?_alloc_lt w _ _ (cell_lt hz'), hz', ← hj]
      have hjz : j < zs.length := by omega
      simp [hjl, hjz])
    (by rw [hlen, hM]; omega)
    (by intro v hv; simp only [List.mem_map] at hv; obtain ⟨n, _, rfl⟩ := hv; rfl)
  rw [hlen] at hrun
  have hrow : (List.take 0 M.toList ++ (zs.take len).map (Value.int .u8) ++ List.drop (0 + len) M.toList).toArray = ((zs.take len).map (Value.int .u8)).toArray := by
    have : List.drop (0 + len) M.toList = [] := List.drop_eq_nil_of_le (by simp [hM])
    rw [this]; simp
  rw [hrow] at hrun
  refine ⟨_, hrun, setRow_heap _ _ _ _ _ _ hnew, by simp [World.setRow], ?_⟩
  exact below_setRow ((Below.refl _ _).alloc (Nat.le_refl _) _) (Nat.le_refl _) _

set_option maxHeartbeats 400000 in
theorem clone_row (x : Addr) (len cap : Nat) (zs : List Int) (w : World) (hl : len ≤ cap) (hz : zs.length = cap) (hlen : len ≤ 1048576)
    (hc : ∀ i, i < zs.length → w.cell? (x.add i) = some (.int .u8 (zs.getD i 0))) :
    Calls Try.prog 10 #[.slice (some x) len cap] w fun e w' => e = .returned (.slice (some ⟨w.heap.size, 0, none⟩) len len) ∧
      w'.heap[w.heap.size]? = some (.cells ((zs.take len).map (Value.int .u8)).toArray 5 (0, 0)) ∧ w'.heap.size = w.heap.size + 1 ∧ Below w.heap.size w w' := by
  obtain ⟨i0, hi, hz0, hz1, hz2⟩ := info_parts info5
  have hb : (i0.bytes : Int) * (len : Int) ≤ 281474976710656 := by rw [hz2]; omega
  have HC := fun M hM => copy_eq x len cap zs w hl hz M hM hc
  clear hc
  have q22 : ∀ (w : World) (a : Option Addr) (n c n' c' : Nat), (binOp .eql 22 (.slice a n c) (.slice none n' c')).run Try.prog w = .ok (.bool a.isNone) w := fun w a n c n' c' => Lib.run_eql_slice_nil w _ _ a n c n' c' Try.underlying22
  go_enter Try.func10, Try.ntmps10
  go_wp2_with (at_make; refine wpList_make_exact _ rfl _ _ 22 rfl 5 i0 (.int .u8 0) 1 Try.underlying22 hi hz0 hz1 _ _ _ _ len rfl rfl rfl rfl hb (by omega) ?_; intro M hM; obtain ⟨w2, hcp, hw1, hw2, hw3⟩ := HC M hM; have HW := And.intro hw1 (And.intro hw2 hw3); clear hw1 hw2 hw3 HC)
  go_ret
  exact ⟨rfl, HW⟩

/-- The nil slice's clone is nil. -/
theorem clone_nil (w : World) :
    Calls Try.prog 10 #[.slice none 0 0] w fun e w' => e = .returned (.slice none 0 0) ∧ w' = w := by
  have q22 : ∀ (w : World) (a : Option Addr) (n c n' c' : Nat), (binOp .eql 22 (.slice a n c) (.slice none n' c')).run Try.prog w = .ok (.bool a.isNone) w := fun w a n c n' c' => Lib.run_eql_slice_nil w _ _ a n c n' c' Try.underlying22
  go_enter Try.func10, Try.ntmps10
  go_wp2
  go_ret
  exact ⟨rfl, rfl⟩

theorem below_drewN {B : Nat} {a w : World} (h : Below B a w) (n : Nat) : Below B a (w.drewN n) := h.trans ⟨rfl, rfl, rfl, Nat.le_refl _, fun _ _ => rfl⟩

/-- What 'w.pos++' does to the loop's relation. -/
theorem rel_step {p len pos q n : Nat} {zs : List Int} {w wr : World} {c : Int} {d : Value} (hlt : q < len) (hq1 : pos ≤ q)
    (hbl : ∀ i, pos ≤ i → i < q → blankB (zs.getD i 0) = true) (hc : c = zs.getD q 0) (hb : blankB c = true)
    (r0 : wr.cell? ⟨p, 0, none⟩ = some d) (r1 : wr.cell? ⟨p, 1, none⟩ = some (.int .i64 q)) (rf : wr.frozen? ⟨p, 1, none⟩ = false) (hbel : Below p w wr) :
    ∃ q1 : Nat, len - (q + 1) = len - q1 ∧ pos ≤ q1 ∧ q1 ≤ len ∧ Hid (∀ i, pos ≤ i → i < q1 → blankB (zs.getD i 0) = true) ∧
      ((wr.drewN n).setCell ⟨p, 1, none⟩ (.int .i64 ((q : Int) + 1))).cell? ⟨p, 0, none⟩ = some d ∧
      ((wr.drewN n).setCell ⟨p, 1, none⟩ (.int .i64 ((q : Int) + 1))).cell? ⟨p, 1, none⟩ = some (.int .i64 q1) ∧
      ((wr.drewN n).setCell ⟨p, 1, none⟩ (.int .i64 ((q : Int) + 1))).frozen? ⟨p, 1, none⟩ = false ∧
      Below p w ((wr.drewN n).setCell ⟨p, 1, none⟩ (.int .i64 ((q : Int) + 1))) := by
  refine ⟨q + 1, rfl, by omega, by omega, ?_, ?_, ?_, ?_, ?_⟩
  · intro i h1 h2
    by_cases hi : i = q
    · subst hi; rw [← hc]; exact hb
    · exact hbl i h1 (by omega)
  · exact (World.cell?_setCell_other (wr.drewN n) ⟨p, 1, none⟩ ⟨p, 0, none⟩ _ (by simp)).trans r0
  · exact (World.cell?_setCell_same (wr.drewN n) ⟨p, 1, none⟩ _ r1).trans (by simp)
  · simp [rf]
  · exact (below_drewN hbel n).setCell (Nat.le_refl _) _

set_option maxHeartbeats 1000000 in
/-- '(*Walker).Next' on a walker at block p, its data a row of 'len' bytes at block g: it stops at q. -/
theorem next_row (p g len pos : Nat) (zs : List Int) (w : World) (hgp : g < p) (hpos : pos ≤ len) (hlen : len ≤ 1048576)
    (c0 : w.cell? ⟨p, 0, none⟩ = some (.slice (some ⟨g, 0, none⟩) len len)) (c1 : w.cell? ⟨p, 1, none⟩ = some (.int .i64 pos)) (f1 : w.frozen? ⟨p, 1, none⟩ = false)
    (hd : ∀ i, i < len → w.cell? ⟨g, i, none⟩ = some (.int .u8 (zs.getD i 0))) :
    Calls Try.prog 12 #[.pointer (some ⟨p, 0, none⟩)] w fun e w' => ∃ q c, pos ≤ q ∧ q ≤ len ∧ (∀ i, pos ≤ i → i < q → blankB (zs.getD i 0) = true) ∧
      (q < len → blankB (zs.getD q 0) = false ∧ c = zs.getD q 0) ∧ (q = len → c = 0) ∧ e = .returned (.int .u8 c) ∧ w'.cell? ⟨p, 1, none⟩ = some (.int .i64 q) ∧ Below p w w' := by
  go_enter Try.func12, Try.ntmps12
  go_wp2
  go_loopg [3] (len - pos) (fun k c wr => ∃ q : Nat, k = len - q ∧ pos ≤ q ∧ q ≤ len ∧ Hid (∀ i, pos ≤ i → i < q → blankB (zs.getD i 0) = true) ∧
    wr.cell? ⟨p, 0, none⟩ = some (.slice (some ⟨g, 0, none⟩) len len) ∧ wr.cell? ⟨p, 1, none⟩ = some (.int .i64 q) ∧ wr.frozen? ⟨p, 1, none⟩ = false ∧ Below p w wr)
  case atStart => exact ⟨pos, rfl, Nat.le_refl _, hpos, fun i h1 h2 => absurd h1 (by omega), c0, c1, f1, Below.refl _ _⟩
  case round =>
    obtain ⟨q, hk, hq1, hq2, hbl, r0, r1, rf, hbel⟩ := hrel
    have HK : Hid (gk = len - q) := hk
    clear c0 c1 f1 hk
    by_cases hlt : q < len
    · obtain ⟨c, hc⟩ : ∃ c, c = zs.getD q 0 := ⟨_, rfl⟩
      have HC : Hid (c = zs.getD q 0) := hc
      have hdq : wr.cell? ⟨g, q, none⟩ = some (.int .u8 c) := by rw [hc]; exact (hbel.cell (by exact hgp)).trans (hd q hlt)
      clear hd hc
      have hgp' : ¬ g = p := by omega
      by_cases hb : c = 32 ∨ c = 9 ∨ c = 10 ∨ c = 13
      · have HB : Hid (blankB c = true) := blank_yes hb
        rcases hb with rfl | rfl | rfl | rfl
        all_goals
          go_wp2
          go_quiet (fail)
          go_wp2
          go_quiet (fail)
          go_wp2
          go_roundg (len - (q + 1))
          case measure => rw [HK.out]; omega
          case rel => exact rel_step hlt hq1 hbl.out HC.out HB.out r0 r1 rf hbel
      · have h1 : (c == 32) = false := by simp; omega
        have h2 : (c == 9) = false := by simp; omega
        have h3 : (c == 10) = false := by simp; omega
        have h4 : (c == 13) = false := by simp; omega
        have HB : Hid (blankB c = false) := decide_eq_false hb
        clear hb
        go_wp2
        go_quiet (fail)
        go_wp2
        go_quiet (fail)
        go_wp2
        go_ret
        exact ⟨q, c, hq1, hq2, hbl.out, fun _ => ⟨by rw [← HC.out]; exact HB.out, HC.out⟩, fun h => absurd h (by omega), rfl, r1, below_drewN hbel _⟩
    · clear hd
      go_wp2
      go_quiet (fail)
      go_wp2
      go_ret
      exact ⟨q, 0, hq1, hq2, hbl.out, fun h => absurd h hlt, fun _ => rfl, rfl, r1, below_drewN hbel _⟩

set_option maxHeartbeats 400000 in
/-- The same where no byte is left, whatever the data's address. -/
theorem next_end (p len cap : Nat) (a : Option Addr) (w : World) (hlen : len ≤ 1048576)
    (c0 : w.cell? ⟨p, 0, none⟩ = some (.slice a len cap)) (c1 : w.cell? ⟨p, 1, none⟩ = some (.int .i64 len)) :
    Calls Try.prog 12 #[.pointer (some ⟨p, 0, none⟩)] w fun e w' => e = .returned (.int .u8 0) ∧ w'.cell? ⟨p, 1, none⟩ = some (.int .i64 len) ∧ Below p w w' := by
  go_enter Try.func12, Try.ntmps12
  go_wp2
  refine wp_loop_rounds 1 ?_
  rw [rounds_succ]
  go_wp2
  go_quiet (fail)
  go_wp2
  go_ret
  exact ⟨rfl, c1, below_drewN (Below.refl _ _) _⟩
end Go.Proofs.Qxb6000005a.jw
