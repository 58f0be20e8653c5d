/-
  FnLineBreaksSplitAtLineFeed walked.
-/
import Derived.Test.Qxb6600513aParts
import Derived.Test.Qxb6600513aLines9
import Derived.Test.Qxb6600513aSplitLaw
namespace Go.Proofs.Qxb6600513a
open Go.RowKit
set_option linter.unusedVariables false

theorem cnt_len (s : Nat) (l : List Int) : cnt s l ≤ l.length := by
  induction l generalizing s with
  | nil => cases s <;> simp [cnt]
  | cons x r ih =>
    cases s with
    | succ s => rw [cnt]; have := ih s; simp; omega
    | zero =>
      rw [cnt]
      split
      · have := ih 0; simp; omega
      · have := ih (brk2 (x :: r) - 1); simp; omega

theorem row_store {w2 w3 : World} {n0 n1 N : Nat} {l0 : List Int} (hN : N = n0 + 1 + n1) (hl0 : l0.length = n0) (hg : Hid (w3.heap[w2.heap.size]? = some (.cells (splice (madeCells #[.int .u8 0] N).toList 0 (l0.map (Value.int .u8))).toArray 5 (0, 0)))) (hb : Below w2.heap.size w2 w3) :
    (∃ v, w3.cell? ⟨w2.heap.size, n0, none⟩ = some v) ∧ w3.frozen? ⟨w2.heap.size, n0, none⟩ = false ∧
    ∃ cur : List Value, Hid (cur.length = N) ∧ Hid (cur.take (n0 + 1) = (l0 ++ [10]).map (Value.int .u8)) ∧ Hid ((w3.setCell ⟨w2.heap.size, n0, none⟩ (.int .u8 10)).heap[w2.heap.size]? = some (.cells cur.toArray 5 (0, 0))) ∧
      Below w2.heap.size w2 (w3.setCell ⟨w2.heap.size, n0, none⟩ (.int .u8 10)) := by
  have hlen : (splice (madeCells #[.int .u8 0] N).toList 0 (l0.map (Value.int .u8))).length = N := by
    rw [length_splice _ _ _ (by simp [size_madeCells]; omega)]; simp [size_madeCells]
  have htk : (splice (madeCells #[.int .u8 0] N).toList 0 (l0.map (Value.int .u8))).take n0 = l0.map (Value.int .u8) := by
    simp only [splice, List.take_zero, List.nil_append]
    rw [List.take_append_of_le_length (by simp [hl0])]
    exact List.take_of_length_le (by simp [hl0])
  have hg' := hg.out
  generalize splice (madeCells #[.int .u8 0] N).toList 0 (l0.map (Value.int .u8)) = cur at *
  refine ⟨⟨cur[n0]'(by omega), ?_⟩, frozen_of_row hg' _, cur.set n0 (.int .u8 10), show _ = _ by simp [hlen], ?_, heap_setCell_row hg' _ _, hb.setCell (Nat.le_refl _) _⟩
  · rw [cell_of_row hg', List.getElem?_eq_getElem (by omega)]
  · show _ = _
    rw [List.take_succ_eq_append_getElem (by simp; omega)]
    rw [List.take_set_of_le (Nat.le_refl _), htk]
    simp

theorem row_done {w5 : World} {g n0 n1 N off : Nat} {l0 l1 : List Int} {cur : List Value} (hN : N = n0 + 1 + n1) (hoff : off = n0 + 1) (hl1 : l1.length = n1) (h1 : Hid (cur.length = N)) (h2 : Hid (cur.take (n0 + 1) = (l0 ++ [10]).map (Value.int .u8)))
    (hg : Hid (w5.heap[g]? = some (.cells (splice cur off (l1.map (Value.int .u8))).toArray 5 (0, 0)))) (hl0 : l0.length = n0) (hn : N ≤ 1048577) (w0 : ∀ x ∈ l0, (Lit.int .u8 x).wf = true) (w1 : ∀ x ∈ l1, (Lit.int .u8 x).wf = true) :
    Sl .u8 w5 (some ⟨g, 0, none⟩) N N (l0 ++ 10 :: l1) := by
  have e : splice cur off (l1.map (Value.int .u8)) = (l0 ++ 10 :: l1).map (Value.int .u8) := by
    subst hoff
    rw [splice, h2.out, List.drop_eq_nil_of_le (by rw [h1.out]; simp; omega)]
    simp
  have hg' := hg.out
  rw [e] at hg'
  refine ⟨by simp; omega, Nat.le_refl _, by unfold maxLen; omega, fun e => by simp at e, fun _ => ⟨g, 0, rfl, fun i hi => ?_⟩, ?_⟩
  · rw [cell_of_row hg']
    have : i < (l0 ++ 10 :: l1).length := by simp; omega
    rw [Nat.zero_add, List.getElem?_map, List.getElem?_eq_getElem this]
    simp [List.getElem?_eq_getElem this]
  · intro x hx
    simp at hx
    rcases hx with hx | rfl | hx
    · exact w0 x hx
    · decide
    · exact w1 x hx

set_option maxHeartbeats 1000000 in
theorem split4_pp (a0 a1 : Option Addr) (c0 c1 : Nat) (n0 : Nat) (n1 : Nat) (l0 l1 : List Int) (w : World) (h0 : Sl .u8 w a0 n0 c0 l0) (h1 : Sl .u8 w a1 n1 c1 l1) (p0 : 0 < n0) (b0 : n0 ≤ 524288) (p1 : 0 < n1) (b1 : n1 ≤ 524288) (hx : l0.getD (n0 - 1) 0 ≠ 13) (HN : Hid (NoCr l0)) :
    Calls Try.prog 4 #[.slice a0 n0 c0, .slice a1 n1 c1] w fun e w' => e = .returned (.bool true) ∧ Below w.heap.size w w' := by
  have hmk := run_make_row' (P := Try.prog) 22 5 (.int .u8 0) 1 Try.underlying22 Try.info5 rfl .i64 .i64 (n0 + 1 + n1) (by omega) (by omega)
  rw [show (((n0 + 1 + n1) : Nat) : Int) = (n0 : Int) + 1 + (n1 : Int) by omega] at hmk
  have B12 := fun w => bytes12_yes a0 a1 n0 c0 n1 c1 w (by omega)
  obtain ⟨b, off, rfl, hcell⟩ := h0.cells p0
  have hlast : w.cell? ⟨b, off + (n0 - 1), none⟩ = some (.int .u8 (l0.getD (n0 - 1) 0)) := hcell (n0 - 1) (by omega)
  have hx' : (l0.getD (n0 - 1) 0 == 13) = false := by simpa using hx
  generalize l0.getD (n0 - 1) 0 = x at hlast hx'
  clear hx hcell
  go_enter Try.func4, Try.ntmps4
  go_wp2_with fail
  refine (B12 _).mono ?_
  rintro e w1 ⟨rfl, hw1⟩
  cases hw1
  clear B12
  go_wp2_with fail
  refine (clone8 _ n0 c0 l0 _ (by omega) h0).mono ?_
  rintro e w1 ⟨a', c', rfl, hb1, s1, -⟩
  go_wp2_with fail
  refine (clone8 _ n1 c1 l1 _ (by omega) (h1.below hb1)).mono ?_
  rintro e w2 ⟨a'', c'', rfl, hb2, s2, -⟩
  have s1' := s1.below hb2
  have hb0 : Below w2.heap.size w2 (w2.alloc (.cells (madeCells #[.int .u8 0] (n0 + 1 + n1)) 5)) := (Below.refl _ w2).alloc (Nat.le_refl _) _
  have hsrc := s1'.src rfl hb0
  have HL0 : Hid (l0.length = n0) := h0.len
  have HL1 : Hid (l1.length = n1) := h1.len
  have hw0 := h0.wf
  have hw1 := h1.wf
  have M1 : Hid ((l0.map (Value.int .u8)).length = Nat.min n0 (n0 + 1 + n1)) := by show _ = _; rw [List.length_map, HL0.out]; exact (Nat.min_eq_left (by omega)).symm
  have F1 : Hid (0 + (l0.map (Value.int .u8)).length ≤ (madeCells #[.int .u8 0] (n0 + 1 + n1)).toList.length) := by show _ ≤ _; rw [List.length_map, HL0.out, Array.length_toList, size_madeCells]; omega
  have M2 : Hid ((l1.map (Value.int .u8)).length = Nat.min n1 n1) := by show _ = _; rw [List.length_map, HL1.out]; exact (Nat.min_eq_left (by omega)).symm
  have P2 : Hid (0 < (l1.map (Value.int .u8)).length → 0 < n1) := by show _ → _; rw [List.length_map, HL1.out]; exact id
  have F2 : Hid (∀ cur : List Value, Hid (cur.length = (n0 + 1 + n1)) → (n0 + 1) + (l1.map (Value.int .u8)).length ≤ cur.length) := by intro cur h; rw [h.out, List.length_map, HL1.out]; omega
  go_wp2_with (first
    | (refine wpList_copy_splice rfl (.tmp 47) (.tmp 48) 22 22 rfl 5 Try.underlying22 Try.size5 _ _ _ _ _ _ rfl rfl w2.heap.size 0 (madeCells #[.int .u8 0] (n0 + 1 + n1)).toList 5 (heap_new _ _) (l0.map (Value.int .u8)) M1.out (fun hp => ⟨rfl, hsrc hp⟩) F1.out (by simp [Value.oneCell']) w2.heap.size w2 hb0 (Nat.le_refl _) ?_; intro w3 hg3 hb3; obtain ⟨⟨v3, hv3⟩, hf3, cur, HCL, HCT, HG4, hb4⟩ := row_store (n0 := n0) (n1 := n1) (by omega) HL0.out hg3 hb3; have hsrc2 := s2.src rfl hb4)
    | (refine wpList_copy_splice rfl (.tmp 58) (.tmp 59) 22 22 rfl 5 Try.underlying22 Try.size5 _ _ _ _ _ _ rfl rfl w2.heap.size (n0 + 1) cur 5 HG4.out (l1.map (Value.int .u8)) M2.out (fun hp => ⟨rfl, hsrc2 hp⟩) (F2.out cur HCL) (by simp [Value.oneCell']) w2.heap.size w2 hb4 (Nat.le_refl _) ?_; intro w5 hg5 hb5; clear hb4 hsrc2 HG4 hb3 hf3 hv3 hsrc hb0))
  have s3 := row_done (n0 := n0) (n1 := n1) (by omega) (by omega) HL1.out HCL HCT hg5 HL0.out (by omega) hw0 hw1
  refine (lineBreaks9 _ n0 c' l0 _ (s1'.below hb5) (by omega)).mono ?_
  rintro e w6 ⟨rfl, hb6⟩
  have e1 := split_cnt l0 l1 HN.out
  have e2 := split_aft l0 l1 (n0 + 1 + n1) HN.out
  rw [HL1.out] at e2
  have c1' : cnt 0 l0 ≤ n0 := by have := cnt_len 0 l0; rw [HL0.out] at this; exact this
  have c2' : cnt 0 l1 ≤ n1 := by have := cnt_len 0 l1; rw [HL1.out] at this; exact this
  generalize cnt 0 l0 = x0 at *
  generalize aft 0 l0 n0 = y0 at *
  have H2 : Hid (Calls Try.prog 9 #[.slice a'' n1 c''] w6 fun e w' => e = .returned (.tuple #[.int .i64 (cnt 0 l1), .int .i64 (aft 0 l1 n1)]) ∧ Below w6.heap.size w6 w') :=
    lineBreaks9 _ n1 c'' l1 _ ((s2.below hb5).below hb6) (by omega)
  have H3 : Hid (∀ w7, Below w6.heap.size w6 w7 → Calls Try.prog 9 #[.slice (some ⟨w2.heap.size, 0, none⟩) (n0 + 1 + n1) (n0 + 1 + n1)] w7 fun e w' => e = .returned (.tuple #[.int .i64 ((x0 + 1 + cnt 0 l1 : Nat) : Int), .int .i64 (aft 0 l1 n1)]) ∧ Below w7.heap.size w7 w') := fun w7 hb7 => by
    have := lineBreaks9 _ (n0 + 1 + n1) (n0 + 1 + n1) _ w7 ((s3.below hb6).below hb7) (by omega)
    rw [e1, e2] at this
    exact this
  clear e1 e2
  generalize cnt 0 l1 = x1 at *
  generalize aft 0 l1 n1 = y1 at *
  clear s3 HCL HCT hg5 M1 F1 M2 P2 F2 HL0 HL1 hw0 hw1 s1 s2 s1' h0 h1
  go_wp2_with fail
  refine H2.out.mono ?_
  rintro e w7 ⟨rfl, hb7⟩
  go_wp2_with fail
  refine (H3.out w7 hb7).mono ?_
  rintro e w8 ⟨rfl, hb8⟩
  go_wp2
  go_ret
  refine ⟨rfl, ?_⟩
  have t1 := hb1.size
  have t2 := hb2.size
  have t5 := hb5.size
  have t6 := hb6.size
  have t7 := hb7.size
  exact ((((hb1.trans (hb2.mono (by omega))).trans (hb5.mono (by omega))).trans (hb6.mono (by omega))).trans (hb7.mono (by omega))).trans (hb8.mono (by omega))

set_option maxHeartbeats 1000000 in
theorem split4_pz (a0 a1 : Option Addr) (c0 c1 : Nat) (n0 : Nat) (l0 l1 : List Int) (w : World) (h0 : Sl .u8 w a0 n0 c0 l0) (h1 : Sl .u8 w a1 0 c1 l1) (p0 : 0 < n0) (b0 : n0 ≤ 524288) (hx : l0.getD (n0 - 1) 0 ≠ 13) (HN : Hid (NoCr l0)) :
    Calls Try.prog 4 #[.slice a0 n0 c0, .slice a1 0 c1] w fun e w' => e = .returned (.bool true) ∧ Below w.heap.size w w' := by
  have hmk := run_make_row' (P := Try.prog) 22 5 (.int .u8 0) 1 Try.underlying22 Try.info5 rfl .i64 .i64 (n0 + 1) (by omega) (by omega)
  rw [show (((n0 + 1) : Nat) : Int) = (n0 : Int) + 1 by omega] at hmk
  have B12 := fun w => bytes12_yes a0 a1 n0 c0 0 c1 w (by omega)
  obtain ⟨b, off, rfl, hcell⟩ := h0.cells p0
  have hlast : w.cell? ⟨b, off + (n0 - 1), none⟩ = some (.int .u8 (l0.getD (n0 - 1) 0)) := hcell (n0 - 1) (by omega)
  have hx' : (l0.getD (n0 - 1) 0 == 13) = false := by simpa using hx
  generalize l0.getD (n0 - 1) 0 = x at hlast hx'
  clear hx hcell
  go_enter Try.func4, Try.ntmps4
  go_wp2_with fail
  refine (B12 _).mono ?_
  rintro e w1 ⟨rfl, hw1⟩
  cases hw1
  clear B12
  go_wp2_with fail
  refine (clone8 _ n0 c0 l0 _ (by omega) h0).mono ?_
  rintro e w1 ⟨a', c', rfl, hb1, s1, -⟩
  go_wp2_with fail
  refine (clone8 _ 0 c1 l1 _ (by omega) (h1.below hb1)).mono ?_
  rintro e w2 ⟨a'', c'', rfl, hb2, s2, -⟩
  have s1' := s1.below hb2
  have hb0 : Below w2.heap.size w2 (w2.alloc (.cells (madeCells #[.int .u8 0] (n0 + 1)) 5)) := (Below.refl _ w2).alloc (Nat.le_refl _) _
  have hsrc := s1'.src rfl hb0
  have HL0 : Hid (l0.length = n0) := h0.len
  have HL1 : Hid (l1.length = 0) := h1.len
  have hw0 := h0.wf
  have hw1 := h1.wf
  have M1 : Hid ((l0.map (Value.int .u8)).length = Nat.min n0 (n0 + 1)) := by show _ = _; rw [List.length_map, HL0.out]; exact (Nat.min_eq_left (by omega)).symm
  have F1 : Hid (0 + (l0.map (Value.int .u8)).length ≤ (madeCells #[.int .u8 0] (n0 + 1)).toList.length) := by show _ ≤ _; rw [List.length_map, HL0.out, Array.length_toList, size_madeCells]; omega
  have M2 : Hid ((l1.map (Value.int .u8)).length = Nat.min 0 0) := by show _ = _; rw [List.length_map, HL1.out]; exact (Nat.min_eq_left (by omega)).symm
  have P2 : Hid (0 < (l1.map (Value.int .u8)).length → 0 < 0) := by show _ → _; rw [List.length_map, HL1.out]; exact id
  have F2 : Hid (∀ cur : List Value, Hid (cur.length = (n0 + 1)) → (n0 + 1) + (l1.map (Value.int .u8)).length ≤ cur.length) := by intro cur h; rw [h.out, List.length_map, HL1.out]; omega
  go_wp2_with (first
    | (refine wpList_copy_splice rfl (.tmp 47) (.tmp 48) 22 22 rfl 5 Try.underlying22 Try.size5 _ _ _ _ _ _ rfl rfl w2.heap.size 0 (madeCells #[.int .u8 0] (n0 + 1)).toList 5 (heap_new _ _) (l0.map (Value.int .u8)) M1.out (fun hp => ⟨rfl, hsrc hp⟩) F1.out (by simp [Value.oneCell']) w2.heap.size w2 hb0 (Nat.le_refl _) ?_; intro w3 hg3 hb3; obtain ⟨⟨v3, hv3⟩, hf3, cur, HCL, HCT, HG4, hb4⟩ := row_store (n0 := n0) (n1 := 0) (by omega) HL0.out hg3 hb3; have hsrc2 := s2.src rfl hb4)
    | (refine wpList_copy_splice rfl (.tmp 58) (.tmp 59) 22 22 rfl 5 Try.underlying22 Try.size5 _ _ _ _ _ _ rfl rfl w2.heap.size (n0 + 1) cur 5 HG4.out (l1.map (Value.int .u8)) M2.out (fun hp => ⟨absurd (P2.out hp) (by omega), hsrc2 hp⟩) (F2.out cur HCL) (by simp [Value.oneCell']) w2.heap.size w2 hb4 (Nat.le_refl _) ?_; intro w5 hg5 hb5; clear hb4 hsrc2 HG4 hb3 hf3 hv3 hsrc hb0))
  have s3 := row_done (n0 := n0) (n1 := 0) (by omega) (by omega) HL1.out HCL HCT hg5 HL0.out (by omega) hw0 hw1
  refine (lineBreaks9 _ n0 c' l0 _ (s1'.below hb5) (by omega)).mono ?_
  rintro e w6 ⟨rfl, hb6⟩
  have e1 := split_cnt l0 l1 HN.out
  have e2 := split_aft l0 l1 (n0 + 1) HN.out
  rw [HL1.out] at e2
  have c1' : cnt 0 l0 ≤ n0 := by have := cnt_len 0 l0; rw [HL0.out] at this; exact this
  have c2' : cnt 0 l1 ≤ 0 := by have := cnt_len 0 l1; rw [HL1.out] at this; exact this
  generalize cnt 0 l0 = x0 at *
  generalize aft 0 l0 n0 = y0 at *
  have H2 : Hid (Calls Try.prog 9 #[.slice a'' 0 c''] w6 fun e w' => e = .returned (.tuple #[.int .i64 (cnt 0 l1), .int .i64 (aft 0 l1 0)]) ∧ Below w6.heap.size w6 w') :=
    lineBreaks9 _ 0 c'' l1 _ ((s2.below hb5).below hb6) (by omega)
  have H3 : Hid (∀ w7, Below w6.heap.size w6 w7 → Calls Try.prog 9 #[.slice (some ⟨w2.heap.size, 0, none⟩) (n0 + 1) (n0 + 1)] w7 fun e w' => e = .returned (.tuple #[.int .i64 ((x0 + 1 + cnt 0 l1 : Nat) : Int), .int .i64 (aft 0 l1 0)]) ∧ Below w7.heap.size w7 w') := fun w7 hb7 => by
    have := lineBreaks9 _ (n0 + 1) (n0 + 1) _ w7 ((s3.below hb6).below hb7) (by omega)
    rw [e1, e2] at this
    exact this
  clear e1 e2
  generalize cnt 0 l1 = x1 at *
  generalize aft 0 l1 0 = y1 at *
  clear s3 HCL HCT hg5 M1 F1 M2 P2 F2 HL0 HL1 hw0 hw1 s1 s2 s1' h0 h1
  go_wp2_with fail
  refine H2.out.mono ?_
  rintro e w7 ⟨rfl, hb7⟩
  go_wp2_with fail
  refine (H3.out w7 hb7).mono ?_
  rintro e w8 ⟨rfl, hb8⟩
  go_wp2
  go_ret
  refine ⟨rfl, ?_⟩
  have t1 := hb1.size
  have t2 := hb2.size
  have t5 := hb5.size
  have t6 := hb6.size
  have t7 := hb7.size
  exact ((((hb1.trans (hb2.mono (by omega))).trans (hb5.mono (by omega))).trans (hb6.mono (by omega))).trans (hb7.mono (by omega))).trans (hb8.mono (by omega))

set_option maxHeartbeats 1000000 in
theorem split4_zp (a0 a1 : Option Addr) (c0 c1 : Nat) (n1 : Nat) (l0 l1 : List Int) (w : World) (h0 : Sl .u8 w a0 0 c0 l0) (h1 : Sl .u8 w a1 n1 c1 l1) (p1 : 0 < n1) (b1 : n1 ≤ 524288) (HN : Hid (NoCr l0)) :
    Calls Try.prog 4 #[.slice a0 0 c0, .slice a1 n1 c1] w fun e w' => e = .returned (.bool true) ∧ Below w.heap.size w w' := by
  have hmk := run_make_row' (P := Try.prog) 22 5 (.int .u8 0) 1 Try.underlying22 Try.info5 rfl .i64 .i64 (1 + n1) (by omega) (by omega)
  rw [show (((1 + n1) : Nat) : Int) = 1 + (n1 : Int) by omega] at hmk
  have B12 := fun w => bytes12_yes a0 a1 0 c0 n1 c1 w (by omega)
  go_enter Try.func4, Try.ntmps4
  go_wp2_with fail
  refine (B12 _).mono ?_
  rintro e w1 ⟨rfl, hw1⟩
  cases hw1
  clear B12
  go_wp2_with fail
  refine (clone8 _ 0 c0 l0 _ (by omega) h0).mono ?_
  rintro e w1 ⟨a', c', rfl, hb1, s1, -⟩
  go_wp2_with fail
  refine (clone8 _ n1 c1 l1 _ (by omega) (h1.below hb1)).mono ?_
  rintro e w2 ⟨a'', c'', rfl, hb2, s2, -⟩
  have s1' := s1.below hb2
  have hb0 : Below w2.heap.size w2 (w2.alloc (.cells (madeCells #[.int .u8 0] (1 + n1)) 5)) := (Below.refl _ w2).alloc (Nat.le_refl _) _
  have hsrc := s1'.src rfl hb0
  have HL0 : Hid (l0.length = 0) := h0.len
  have HL1 : Hid (l1.length = n1) := h1.len
  have hw0 := h0.wf
  have hw1 := h1.wf
  have M1 : Hid ((l0.map (Value.int .u8)).length = Nat.min 0 (1 + n1)) := by show _ = _; rw [List.length_map, HL0.out]; exact (Nat.min_eq_left (by omega)).symm
  have F1 : Hid (0 + (l0.map (Value.int .u8)).length ≤ (madeCells #[.int .u8 0] (1 + n1)).toList.length) := by show _ ≤ _; rw [List.length_map, HL0.out, Array.length_toList, size_madeCells]; omega
  have M2 : Hid ((l1.map (Value.int .u8)).length = Nat.min n1 n1) := by show _ = _; rw [List.length_map, HL1.out]; exact (Nat.min_eq_left (by omega)).symm
  have P2 : Hid (0 < (l1.map (Value.int .u8)).length → 0 < n1) := by show _ → _; rw [List.length_map, HL1.out]; exact id
  have F2 : Hid (∀ cur : List Value, Hid (cur.length = (1 + n1)) → 1 + (l1.map (Value.int .u8)).length ≤ cur.length) := by intro cur h; rw [h.out, List.length_map, HL1.out]; omega
  go_wp2_with (first
    | (refine wpList_copy_splice rfl (.tmp 47) (.tmp 48) 22 22 rfl 5 Try.underlying22 Try.size5 _ _ _ _ _ _ rfl rfl w2.heap.size 0 (madeCells #[.int .u8 0] (1 + n1)).toList 5 (heap_new _ _) (l0.map (Value.int .u8)) M1.out (fun hp => ⟨rfl, hsrc hp⟩) F1.out (by simp [Value.oneCell']) w2.heap.size w2 hb0 (Nat.le_refl _) ?_; intro w3 hg3 hb3; obtain ⟨⟨v3, hv3⟩, hf3, cur, HCL, HCT, HG4, hb4⟩ := row_store (n0 := 0) (n1 := n1) (by omega) HL0.out hg3 hb3; have hsrc2 := s2.src rfl hb4)
    | (refine wpList_copy_splice rfl (.tmp 58) (.tmp 59) 22 22 rfl 5 Try.underlying22 Try.size5 _ _ _ _ _ _ rfl rfl w2.heap.size 1 cur 5 HG4.out (l1.map (Value.int .u8)) M2.out (fun hp => ⟨rfl, hsrc2 hp⟩) (F2.out cur HCL) (by simp [Value.oneCell']) w2.heap.size w2 hb4 (Nat.le_refl _) ?_; intro w5 hg5 hb5; clear hb4 hsrc2 HG4 hb3 hf3 hv3 hsrc hb0))
  have s3 := row_done (n0 := 0) (n1 := n1) (by omega) (by omega) HL1.out HCL HCT hg5 HL0.out (by omega) hw0 hw1
  refine (lineBreaks9 _ 0 c' l0 _ (s1'.below hb5) (by omega)).mono ?_
  rintro e w6 ⟨rfl, hb6⟩
  have e1 := split_cnt l0 l1 HN.out
  have e2 := split_aft l0 l1 (1 + n1) HN.out
  rw [HL1.out] at e2
  have c1' : cnt 0 l0 ≤ 0 := by have := cnt_len 0 l0; rw [HL0.out] at this; exact this
  have c2' : cnt 0 l1 ≤ n1 := by have := cnt_len 0 l1; rw [HL1.out] at this; exact this
  generalize cnt 0 l0 = x0 at *
  generalize aft 0 l0 0 = y0 at *
  have H2 : Hid (Calls Try.prog 9 #[.slice a'' n1 c''] w6 fun e w' => e = .returned (.tuple #[.int .i64 (cnt 0 l1), .int .i64 (aft 0 l1 n1)]) ∧ Below w6.heap.size w6 w') :=
    lineBreaks9 _ n1 c'' l1 _ ((s2.below hb5).below hb6) (by omega)
  have H3 : Hid (∀ w7, Below w6.heap.size w6 w7 → Calls Try.prog 9 #[.slice (some ⟨w2.heap.size, 0, none⟩) (1 + n1) (1 + n1)] w7 fun e w' => e = .returned (.tuple #[.int .i64 ((x0 + 1 + cnt 0 l1 : Nat) : Int), .int .i64 (aft 0 l1 n1)]) ∧ Below w7.heap.size w7 w') := fun w7 hb7 => by
    have := lineBreaks9 _ (1 + n1) (1 + n1) _ w7 ((s3.below hb6).below hb7) (by omega)
    rw [e1, e2] at this
    exact this
  clear e1 e2
  generalize cnt 0 l1 = x1 at *
  generalize aft 0 l1 n1 = y1 at *
  clear s3 HCL HCT hg5 M1 F1 M2 P2 F2 HL0 HL1 hw0 hw1 s1 s2 s1' h0 h1
  go_wp2_with fail
  refine H2.out.mono ?_
  rintro e w7 ⟨rfl, hb7⟩
  go_wp2_with fail
  refine (H3.out w7 hb7).mono ?_
  rintro e w8 ⟨rfl, hb8⟩
  go_wp2
  go_ret
  refine ⟨rfl, ?_⟩
  have t1 := hb1.size
  have t2 := hb2.size
  have t5 := hb5.size
  have t6 := hb6.size
  have t7 := hb7.size
  exact ((((hb1.trans (hb2.mono (by omega))).trans (hb5.mono (by omega))).trans (hb6.mono (by omega))).trans (hb7.mono (by omega))).trans (hb8.mono (by omega))

set_option maxHeartbeats 1000000 in
theorem split4_zz (a0 a1 : Option Addr) (c0 c1 : Nat) (l0 l1 : List Int) (w : World) (h0 : Sl .u8 w a0 0 c0 l0) (h1 : Sl .u8 w a1 0 c1 l1) (HN : Hid (NoCr l0)) :
    Calls Try.prog 4 #[.slice a0 0 c0, .slice a1 0 c1] w fun e w' => e = .returned (.bool true) ∧ Below w.heap.size w w' := by
  have hmk := run_make_row' (P := Try.prog) 22 5 (.int .u8 0) 1 Try.underlying22 Try.info5 rfl .i64 .i64 1 (by omega) (by omega)
  rw [show ((1 : Nat) : Int) = 1 by omega] at hmk
  have B12 := fun w => bytes12_yes a0 a1 0 c0 0 c1 w (by omega)
  go_enter Try.func4, Try.ntmps4
  go_wp2_with fail
  refine (B12 _).mono ?_
  rintro e w1 ⟨rfl, hw1⟩
  cases hw1
  clear B12
  go_wp2_with fail
  refine (clone8 _ 0 c0 l0 _ (by omega) h0).mono ?_
  rintro e w1 ⟨a', c', rfl, hb1, s1, -⟩
  go_wp2_with fail
  refine (clone8 _ 0 c1 l1 _ (by omega) (h1.below hb1)).mono ?_
  rintro e w2 ⟨a'', c'', rfl, hb2, s2, -⟩
  have s1' := s1.below hb2
  have hb0 : Below w2.heap.size w2 (w2.alloc (.cells (madeCells #[.int .u8 0] 1) 5)) := (Below.refl _ w2).alloc (Nat.le_refl _) _
  have hsrc := s1'.src rfl hb0
  have HL0 : Hid (l0.length = 0) := h0.len
  have HL1 : Hid (l1.length = 0) := h1.len
  have hw0 := h0.wf
  have hw1 := h1.wf
  have M1 : Hid ((l0.map (Value.int .u8)).length = Nat.min 0 1) := by show _ = _; rw [List.length_map, HL0.out]; exact (Nat.min_eq_left (by omega)).symm
  have F1 : Hid (0 + (l0.map (Value.int .u8)).length ≤ (madeCells #[.int .u8 0] 1).toList.length) := by show _ ≤ _; rw [List.length_map, HL0.out, Array.length_toList, size_madeCells]; omega
  have M2 : Hid ((l1.map (Value.int .u8)).length = Nat.min 0 0) := by show _ = _; rw [List.length_map, HL1.out]; exact (Nat.min_eq_left (by omega)).symm
  have P2 : Hid (0 < (l1.map (Value.int .u8)).length → 0 < 0) := by show _ → _; rw [List.length_map, HL1.out]; exact id
  have F2 : Hid (∀ cur : List Value, Hid (cur.length = 1) → 1 + (l1.map (Value.int .u8)).length ≤ cur.length) := by intro cur h; rw [h.out, List.length_map, HL1.out]; omega
  go_wp2_with (first
    | (refine wpList_copy_splice rfl (.tmp 47) (.tmp 48) 22 22 rfl 5 Try.underlying22 Try.size5 _ _ _ _ _ _ rfl rfl w2.heap.size 0 (madeCells #[.int .u8 0] 1).toList 5 (heap_new _ _) (l0.map (Value.int .u8)) M1.out (fun hp => ⟨rfl, hsrc hp⟩) F1.out (by simp [Value.oneCell']) w2.heap.size w2 hb0 (Nat.le_refl _) ?_; intro w3 hg3 hb3; obtain ⟨⟨v3, hv3⟩, hf3, cur, HCL, HCT, HG4, hb4⟩ := row_store (n0 := 0) (n1 := 0) (by omega) HL0.out hg3 hb3; have hsrc2 := s2.src rfl hb4)
    | (refine wpList_copy_splice rfl (.tmp 58) (.tmp 59) 22 22 rfl 5 Try.underlying22 Try.size5 _ _ _ _ _ _ rfl rfl w2.heap.size 1 cur 5 HG4.out (l1.map (Value.int .u8)) M2.out (fun hp => ⟨absurd (P2.out hp) (by omega), hsrc2 hp⟩) (F2.out cur HCL) (by simp [Value.oneCell']) w2.heap.size w2 hb4 (Nat.le_refl _) ?_; intro w5 hg5 hb5; clear hb4 hsrc2 HG4 hb3 hf3 hv3 hsrc hb0))
  have s3 := row_done (n0 := 0) (n1 := 0) (by omega) (by omega) HL1.out HCL HCT hg5 HL0.out (by omega) hw0 hw1
  refine (lineBreaks9 _ 0 c' l0 _ (s1'.below hb5) (by omega)).mono ?_
  rintro e w6 ⟨rfl, hb6⟩
  have e1 := split_cnt l0 l1 HN.out
  have e2 := split_aft l0 l1 1 HN.out
  rw [HL1.out] at e2
  have c1' : cnt 0 l0 ≤ 0 := by have := cnt_len 0 l0; rw [HL0.out] at this; exact this
  have c2' : cnt 0 l1 ≤ 0 := by have := cnt_len 0 l1; rw [HL1.out] at this; exact this
  generalize cnt 0 l0 = x0 at *
  generalize aft 0 l0 0 = y0 at *
  have H2 : Hid (Calls Try.prog 9 #[.slice a'' 0 c''] w6 fun e w' => e = .returned (.tuple #[.int .i64 (cnt 0 l1), .int .i64 (aft 0 l1 0)]) ∧ Below w6.heap.size w6 w') :=
    lineBreaks9 _ 0 c'' l1 _ ((s2.below hb5).below hb6) (by omega)
  have H3 : Hid (∀ w7, Below w6.heap.size w6 w7 → Calls Try.prog 9 #[.slice (some ⟨w2.heap.size, 0, none⟩) 1 1] w7 fun e w' => e = .returned (.tuple #[.int .i64 ((x0 + 1 + cnt 0 l1 : Nat) : Int), .int .i64 (aft 0 l1 0)]) ∧ Below w7.heap.size w7 w') := fun w7 hb7 => by
    have := lineBreaks9 _ 1 1 _ w7 ((s3.below hb6).below hb7) (by omega)
    rw [e1, e2] at this
    exact this
  clear e1 e2
  generalize cnt 0 l1 = x1 at *
  generalize aft 0 l1 0 = y1 at *
  clear s3 HCL HCT hg5 M1 F1 M2 P2 F2 HL0 HL1 hw0 hw1 s1 s2 s1' h0 h1
  go_wp2_with fail
  refine H2.out.mono ?_
  rintro e w7 ⟨rfl, hb7⟩
  go_wp2_with fail
  refine (H3.out w7 hb7).mono ?_
  rintro e w8 ⟨rfl, hb8⟩
  go_wp2
  go_ret
  refine ⟨rfl, ?_⟩
  have t1 := hb1.size
  have t2 := hb2.size
  have t5 := hb5.size
  have t6 := hb6.size
  have t7 := hb7.size
  exact ((((hb1.trans (hb2.mono (by omega))).trans (hb5.mono (by omega))).trans (hb6.mono (by omega))).trans (hb7.mono (by omega))).trans (hb8.mono (by omega))

end Go.Proofs.Qxb6600513a
