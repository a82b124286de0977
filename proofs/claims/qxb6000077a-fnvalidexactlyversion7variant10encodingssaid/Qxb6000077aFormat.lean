/-
  The contract of formatHex (9).
-/
import Derived.Test.Qxb6000077aValid
import Derived.Laws.IdiomStrings
namespace Go.Proofs.Qxb6000077a.uu
open Go.ChangeShapes Go.WideShapes Go.ChangeAt Go.RowKit
set_option linter.unusedVariables false

/-! ### The text -/
def sep (k : Nat) : List Int := if k = 4 ∨ k = 6 ∨ k = 8 ∨ k = 10 then [45] else []
def txt (B : Nat → Int) : Nat → List Int
  | 0 => []
  | k + 1 => txt B k ++ sep k ++ [hexD (B k / 16)] ++ [hexD (B k % 16)]
def lenT : Nat → Nat
  | 0 => 0
  | k + 1 => lenT k + (sep k).length + 2
theorem txt_len (B : Nat → Int) : ∀ k, (txt B k).length = lenT k
  | 0 => rfl
  | k + 1 => by simp [txt, lenT, txt_len B k]; omega
theorem lenT_le : ∀ k : Fin 16, lenT k.val + (sep k.val).length + 2 ≤ 36 := by decide
theorem txt_room (B : Nat → Int) (k : Nat) (h : k < 16) : (txt B k).length + (sep k).length + 2 ≤ 36 := by
  rw [txt_len]; exact lenT_le ⟨k, h⟩

/-- The state of formatHex: the array at block a, what is written so far in the row of 36 bytes at block g. -/
structure Fmt (a g : Nat) (B : Nat → Int) (w0 wr : World) (l : List Int) : Prop where
  own : wr.ownsRow g 5 1 (.slice (some ⟨g, 0, none⟩) l.length 36) l.length (l.map (Value.int .u8))
  arr : ∀ j, j < 16 → wr.cell? ⟨a, j, none⟩ = some (.int .u8 (B j))
  bel : Below a w0 wr
  size : g < wr.heap.size

theorem info5 : (Try.prog.info? 5).map (fun i => (i.zero, i.size, i.bytes)) = some (some (.int .u8 0), 1, 1) := by kernel_rfl

theorem Fmt.push {a g n : Nat} {B : Nat → Int} {w0 wr w1 : World} {l : List Int} {xs : List Value} {o : Obj} {c : Int} (h : Fmt a g B w0 wr l) (hag : a < g) (hn : l.length = n) (hxs : l.map (Value.int .u8) = xs)
    (hown : w1.ownsRow g 5 1 (.slice (some ⟨g, 0, none⟩) (n + 1) 36) (n + 1) (xs ++ [.int .u8 c])) (hgr : (wr.alloc o).grownBy w1 (some g)) : Fmt a g B w0 w1 (l ++ [c]) := by
  subst hn
  subst hxs
  have hs : wr.heap.size + 1 ≤ w1.heap.size := by simpa using hgr.size
  have hsz := h.size
  refine ⟨by simpa using hown, fun j hj => ?_, ?_, by omega⟩
  · refine hgr.cell ?_ (by simp; omega)
    rw [World.cell?_alloc_lt wr _ _ (by show a < _; omega)]
    exact h.arr j hj
  · exact (h.bel.alloc (by omega) o).grown hgr (by simp; omega) (fun k hk => by cases hk; omega)

theorem one_new (w : World) (n : Int) (t : TypeId) : ∀ j u, [Value.int .u8 n][j]? = some u → (w.alloc (.cells #[.int .u8 n] t)).cell? ((⟨w.heap.size, 0, none⟩ : Addr).add j) = some u := by
  intro j u hj
  match j, hj with
  | 0, hj => simp at hj; subst hj; simp [Addr.add]
theorem one_cell (n : Int) : ∀ u ∈ [Value.int .u8 n], u.oneCell' = true := by
  intro u hu
  simp at hu
  subst hu
  rfl

theorem txt_no (B : Nat → Int) (k : Nat) (h : ¬ (k = 4 ∨ k = 6 ∨ k = 8 ∨ k = 10)) : txt B (k + 1) = txt B k ++ [hexD (B k / 16)] ++ [hexD (B k % 16)] := by
  simp only [txt, sep, if_neg h, List.append_nil]
theorem txt_sep (B : Nat → Int) (k : Nat) (h : k = 4 ∨ k = 6 ∨ k = 8 ∨ k = 10) : txt B (k + 1) = txt B k ++ [45] ++ [hexD (B k / 16)] ++ [hexD (B k % 16)] := by
  simp only [txt, sep, if_pos h]

theorem arr_at (B : Nat → Int) (w : World) (j : Nat) (hj : j < 16) : (w.alloc (.cells #[.int .u8 (B 0), .int .u8 (B 1), .int .u8 (B 2), .int .u8 (B 3), .int .u8 (B 4), .int .u8 (B 5), .int .u8 (B 6), .int .u8 (B 7), .int .u8 (B 8), .int .u8 (B 9), .int .u8 (B 10), .int .u8 (B 11), .int .u8 (B 12), .int .u8 (B 13), .int .u8 (B 14), .int .u8 (B 15)] 23)).cell? ⟨w.heap.size, j, none⟩ = some (.int .u8 (B j)) := by
  rcases (show j = 0 ∨ j = 1 ∨ j = 2 ∨ j = 3 ∨ j = 4 ∨ j = 5 ∨ j = 6 ∨ j = 7 ∨ j = 8 ∨ j = 9 ∨ j = 10 ∨ j = 11 ∨ j = 12 ∨ j = 13 ∨ j = 14 ∨ j = 15 from by omega) with rfl | rfl | rfl | rfl | rfl | rfl | rfl | rfl | rfl | rfl | rfl | rfl | rfl | rfl | rfl | rfl <;> simp

theorem Fmt.start {B : Nat → Int} {w w1 : World} (hown : w1.ownsRow (w.heap.size + 1) 5 1 (.slice (some ⟨(w.alloc (.cells #[.int .u8 (B 0), .int .u8 (B 1), .int .u8 (B 2), .int .u8 (B 3), .int .u8 (B 4), .int .u8 (B 5), .int .u8 (B 6), .int .u8 (B 7), .int .u8 (B 8), .int .u8 (B 9), .int .u8 (B 10), .int .u8 (B 11), .int .u8 (B 12), .int .u8 (B 13), .int .u8 (B 14), .int .u8 (B 15)] 23)).heap.size, 0, none⟩) 0 36) 0 [])
    (hgrow : (w.alloc (.cells #[.int .u8 (B 0), .int .u8 (B 1), .int .u8 (B 2), .int .u8 (B 3), .int .u8 (B 4), .int .u8 (B 5), .int .u8 (B 6), .int .u8 (B 7), .int .u8 (B 8), .int .u8 (B 9), .int .u8 (B 10), .int .u8 (B 11), .int .u8 (B 12), .int .u8 (B 13), .int .u8 (B 14), .int .u8 (B 15)] 23)).grownBy w1 none) : Fmt w.heap.size (w.heap.size + 1) B w w1 [] := by
  have e : (w.alloc (.cells #[.int .u8 (B 0), .int .u8 (B 1), .int .u8 (B 2), .int .u8 (B 3), .int .u8 (B 4), .int .u8 (B 5), .int .u8 (B 6), .int .u8 (B 7), .int .u8 (B 8), .int .u8 (B 9), .int .u8 (B 10), .int .u8 (B 11), .int .u8 (B 12), .int .u8 (B 13), .int .u8 (B 14), .int .u8 (B 15)] 23)).heap.size = w.heap.size + 1 := by simp
  rw [e] at hown
  refine ⟨hown, fun j hj => hgrow.cell (arr_at B w j hj) (by simp), ((Below.refl _ _).alloc (Nat.le_refl _) _).grown hgrow (by simp) (fun k hk => by cases hk), ?_⟩
  obtain ⟨_, h⟩ := hown
  rcases h with ⟨h, _⟩ | ⟨g, cap, cur, hv, _, hg, _⟩
  · simp at h
  · simp at hv
    obtain ⟨rfl, _⟩ := hv
    exact (Array.getElem?_eq_some_iff.1 hg).1

theorem hexD_byte (n : Int) (h0 : 0 ≤ n) (h1 : n < 16) : 0 ≤ hexD n ∧ hexD n ≤ 255 := by
  unfold hexD
  split <;> omega
theorem txt_byte (B : Nat → Int) (hB : ∀ j, j < 16 → 0 ≤ B j ∧ B j ≤ 255) : ∀ k, k ≤ 16 → ∀ n ∈ txt B k, 0 ≤ n ∧ n ≤ 255
  | 0, _ => by simp [txt]
  | k + 1, hk => by
    intro n hn
    have hb := hB k (by omega)
    simp only [txt, List.mem_append, List.mem_cons, List.not_mem_nil, or_false] at hn
    rcases hn with ((hn | hn) | rfl) | rfl
    · exact txt_byte B hB k (by omega) n hn
    · unfold sep at hn
      split at hn
      · simp at hn; omega
      · simp at hn
    · exact hexD_byte _ (by omega) (by omega)
    · exact hexD_byte _ (by omega) (by omega)

/-- 'string(out)'. -/
theorem conv_text {a g : Nat} {B : Nat → Int} {w0 wr : World} {l : List Int} (hF : Fmt a g B w0 wr l) (hl : l.length = 36) (hr : ∀ n ∈ l, 0 ≤ n ∧ n ≤ 255) :
    ∃ s : ByteArray, (convert 30 9 (.slice (some ⟨g, 0, none⟩) l.length 36)).run Try.prog wr = .ok (.string s) wr ∧ s.size = 36 ∧ ∀ i (h : i < s.size), ((s[i]'h).toNat : Int) = l.getD i 0 := by
  have hu : (l.map (fun n => UInt8.ofNat n.toNat)).length = l.length := by simp
  have hv : ∀ j (hj : j < l.length), ((UInt8.ofNat (l[j]).toNat).toNat : Int) = l[j] := by
    intro j hj
    have := hr l[j] (List.getElem_mem hj)
    rw [UInt8.toNat_ofNat']
    omega
  have hc := run_convert_bytes_back (P := Try.prog) wr 30 9 5 ⟨g, 0, none⟩ 36 (l.map (fun n => UInt8.ofNat n.toNat)) Try.underlying30 Try.underlying5 Try.underlying9 (by
    intro j hj
    have hjl : j < l.length := by simpa using hj
    have h := hF.own.cellAt j (by omega)
    rw [add_plain, Nat.zero_add, h]
    simp only [List.getElem_map]
    rw [hv j hjl]
    simp [hjl])
  rw [hu] at hc
  refine ⟨_, hc, ?_, ?_⟩
  · show (l.map (fun n => UInt8.ofNat n.toNat)).toArray.size = 36
    simp [hl]
  · intro i h
    have hi : i < l.length := by
      have : i < (l.map (fun n => UInt8.ofNat n.toNat)).toArray.size := h
      simpa using this
    have e : (ByteArray.mk (l.map (fun n => UInt8.ofNat n.toNat)).toArray)[i]'h = UInt8.ofNat (l[i]).toNat := by
      show (l.map (fun n => UInt8.ofNat n.toNat)).toArray[i] = _
      simp
    rw [e, hv i hi]
    simp [hi]

set_option maxHeartbeats 1000000 in
theorem format_any (B : Nat → Int) (w : World) (hB : ∀ j, j < 16 → 0 ≤ B j ∧ B j ≤ 255) :
    Calls Try.prog 9 #[.agg #[.int .u8 (B 0), .int .u8 (B 1), .int .u8 (B 2), .int .u8 (B 3), .int .u8 (B 4), .int .u8 (B 5), .int .u8 (B 6), .int .u8 (B 7), .int .u8 (B 8), .int .u8 (B 9), .int .u8 (B 10), .int .u8 (B 11), .int .u8 (B 12), .int .u8 (B 13), .int .u8 (B 14), .int .u8 (B 15)]] w
      fun e w' => ∃ s : ByteArray, e = .returned (.string s) ∧ s.size = 36 ∧ (∀ i (h : i < s.size), ((s[i]'h).toNat : Int) = (txt B 16).getD i 0) ∧ Below w.heap.size w w' := by
  obtain ⟨i0, hi, hz0, hz1, hz2⟩ := info_parts info5
  go_enter Try.func9, Try.ntmps9
  go_wp2_with (at_make; refine wpList_make_own _ rfl _ _ 30 rfl (w.heap.size + 1) 5 i0 (.int .u8 0) 1 Try.underlying30 hi hz0 hz1 _ _ _ 36 rfl rfl rfl (by rw [hz2]; omega) (by unfold maxLen; omega) (by simp) ?_; intro w1 hown hgrow)
  have hF := Fmt.start hown hgrow
  clear hown hgrow
  go_loopg [3, 4] 16 (fun gk out i wr => ∃ k : Nat, Hid (gk = 16 - k) ∧ k ≤ 16 ∧ i = .int .i64 k ∧ out = .slice (some ⟨w.heap.size + 1, 0, none⟩) (txt B k).length 36 ∧ Fmt w.heap.size (w.heap.size + 1) B w wr (txt B k))
  case atStart => exact ⟨0, rfl, Nat.zero_le _, rfl, rfl, hF⟩
  case round =>
    clear hF
    obtain ⟨k, HG, hk, rfl, rfl, hF⟩ := hrel
    by_cases hlt : k < 16
    · have hroom := txt_room B k hlt
      have hbk := hB k hlt
      have hcell := hF.arr k hlt
      have HX : Hid ((k = 4 ∨ k = 6 ∨ k = 8 ∨ k = 10) → txt B (k + 1) = txt B k ++ [45] ++ [hexD (B k / 16)] ++ [hexD (B k % 16)]) := txt_sep B k
      have HY : Hid (¬ (k = 4 ∨ k = 6 ∨ k = 8 ∨ k = 10) → txt B (k + 1) = txt B k ++ [hexD (B k / 16)] ++ [hexD (B k % 16)]) := txt_no B k
      have hr : (txt B k).length + 2 ≤ 36 := by omega
      have hrs : (k = 4 ∨ k = 6 ∨ k = 8 ∨ k = 10) → (txt B k).length + 3 ≤ 36 := fun h => by
        have e : (sep k).length = 1 := by simp only [sep, if_pos h, List.length_cons, List.length_nil]
        omega
      obtain ⟨l, hl⟩ : ∃ l, l = txt B k := ⟨_, rfl⟩
      rw [← hl] at hF HX HY hr hrs
      rw [← hl]
      clear hl hroom
      obtain ⟨b, hb⟩ : ∃ b, b = B k := ⟨_, rfl⟩
      rw [← hb] at hcell HX HY hbk
      have HBK : Hid (b = B k) := hb
      clear hb hB
      obtain ⟨hb0, hb1⟩ := hbk
      by_cases hsep : k = 4 ∨ k = 6 ∨ k = 8 ∨ k = 10
      · have HZ : Hid (txt B (k + 1) = l ++ [45] ++ [hexD (b / 16)] ++ [hexD (b % 16)]) := HX.out hsep
        have hr3 := hrs hsep
        have ht : (((k : Int) == 4) = true) ∨ (((k : Int) == 4) = false ∧ ((k : Int) == 6) = true) ∨ (((k : Int) == 4) = false ∧ ((k : Int) == 6) = false ∧ ((k : Int) == 8) = true) ∨
            (((k : Int) == 4) = false ∧ ((k : Int) == 6) = false ∧ ((k : Int) == 8) = false ∧ ((k : Int) == 10) = true) := by
          simp
          omega
        clear hsep hrs HX HY
        rcases ht with t1 | ⟨t1, t2⟩ | ⟨t1, t2, t3⟩ | ⟨t1, t2, t3, t4⟩
        all_goals
          go_wp2_with (first | (go_at_call 13; refine (hex_any _ _ (by omega) (by omega)).mono ?_; rintro e w' ⟨rfl, rfl⟩) | (at_builtin; refine wpList_append_fits _ rfl (.tmp 24) (.tmp 25) 30 rfl (w.heap.size + 1) 5 i0 1 Try.underlying30 hi hz1 (w.heap.size + 1) (l.length) 36 (l.map (Value.int .u8)) rfl (hF.own.alloc _) ⟨wr.heap.size, 0, none⟩ 1 1 [.int .u8 (45)] rfl rfl (one_new _ _ _) (one_cell _) (by omega) ?_; intro w1s hown1 hgr1; have F1 := hF.push (by omega) rfl rfl hown1 hgr1; have hcell1 := F1.arr k hlt; rw [← HBK.out] at hcell1; clear hgr1) | (at_builtin; refine wpList_append_fits _ rfl (.tmp 27) (.tmp 33) 30 rfl (w.heap.size + 1) 5 i0 1 Try.underlying30 hi hz1 (w.heap.size + 1) (l.length + 1) 36 (l.map (Value.int .u8) ++ [.int .u8 45]) rfl (hown1.alloc _) ⟨w1s.heap.size, 0, none⟩ 1 1 [.int .u8 (hexD (b / 16))] rfl rfl (one_new _ _ _) (one_cell _) (by omega) ?_; intro w2 hown2 hgr2; have F2 := F1.push (by omega) (by simp) (by simp) hown2 hgr2; have hcell2 := F2.arr k hlt; rw [← HBK.out] at hcell2; clear hgr2) | (at_builtin; refine wpList_append_fits _ rfl (.tmp 35) (.tmp 41) 30 rfl (w.heap.size + 1) 5 i0 1 Try.underlying30 hi hz1 (w.heap.size + 1) (l.length + 1 + 1) 36 (l.map (Value.int .u8) ++ [.int .u8 45] ++ [.int .u8 (hexD (b / 16))]) rfl (hown2.alloc _) ⟨w2.heap.size, 0, none⟩ 1 1 [.int .u8 (hexD (b % 16))] rfl rfl (one_new _ _ _) (one_cell _) (by omega) ?_; intro w3 hown3 hgr3; have F3 := F2.push (by omega) (by simp) (by simp) hown3 hgr3; clear hgr3))
          go_roundg (16 - (k + 1))
          case rel => exact ⟨k + 1, rfl, by omega, by go_num, by rw [HZ.out]; simp, by rw [HZ.out]; exact F3⟩
          case measure => rw [HG.out]; omega
      · have HZ : Hid (txt B (k + 1) = l ++ [hexD (b / 16)] ++ [hexD (b % 16)]) := HY.out hsep
        have t1 : ((k : Int) == 4) = false := by simp; omega
        have t2 : ((k : Int) == 6) = false := by simp; omega
        have t3 : ((k : Int) == 8) = false := by simp; omega
        have t4 : ((k : Int) == 10) = false := by simp; omega
        clear hsep hrs HX HY
        go_wp2_with (first | (go_at_call 13; refine (hex_any _ _ (by omega) (by omega)).mono ?_; rintro e w' ⟨rfl, rfl⟩) | (at_builtin; refine wpList_append_fits _ rfl (.tmp 27) (.tmp 33) 30 rfl (w.heap.size + 1) 5 i0 1 Try.underlying30 hi hz1 (w.heap.size + 1) (l.length) 36 (l.map (Value.int .u8)) rfl (hF.own.alloc _) ⟨wr.heap.size, 0, none⟩ 1 1 [.int .u8 (hexD (b / 16))] rfl rfl (one_new _ _ _) (one_cell _) (by omega) ?_; intro w2 hown2 hgr2; have F2 := hF.push (by omega) rfl rfl hown2 hgr2; have hcell2 := F2.arr k hlt; rw [← HBK.out] at hcell2; clear hgr2) | (at_builtin; refine wpList_append_fits _ rfl (.tmp 35) (.tmp 41) 30 rfl (w.heap.size + 1) 5 i0 1 Try.underlying30 hi hz1 (w.heap.size + 1) (l.length + 1) 36 (l.map (Value.int .u8) ++ [.int .u8 (hexD (b / 16))]) rfl (hown2.alloc _) ⟨w2.heap.size, 0, none⟩ 1 1 [.int .u8 (hexD (b % 16))] rfl rfl (one_new _ _ _) (one_cell _) (by omega) ?_; intro w3 hown3 hgr3; have F3 := F2.push (by omega) (by simp) (by simp) hown3 hgr3; clear hgr3))
        go_roundg (16 - (k + 1))
        case rel => exact ⟨k + 1, rfl, by omega, by go_num, by rw [HZ.out]; simp, by rw [HZ.out]; exact F3⟩
        case measure => rw [HG.out]; omega
    · obtain rfl : k = 16 := by omega
      have hlen : (txt B 16).length = 36 := by rw [txt_len]; rfl
      obtain ⟨s, hconv, hs, hsi⟩ := conv_text hF hlen (txt_byte B hB 16 (Nat.le_refl _))
      have HS : Hid (s.size = 36 ∧ (∀ i (h : i < s.size), ((s[i]'h).toNat : Int) = (txt B 16).getD i 0)) := ⟨hs, hsi⟩
      have hbel := hF.bel
      clear hs hsi hlen hF hB
      go_wp2
      go_ret
      exact ⟨s, rfl, HS.out.1, HS.out.2, hbel⟩
end Go.Proofs.Qxb6000077a.uu
