/-
  zzConcatB1.
-/
import Derived.Test.Qxb6600532aKind
namespace Go.Proofs.Qxb6600532a
open Go.RowKit
set_option linter.unusedVariables false
set_option linter.unusedSimpArgs false

set_option maxHeartbeats 1000000 in
theorem concat18_p (a0 a1 : Option Addr) (n0 c0 n1 c1 : Nat) (l0 l1 : List Int) (w : World) (h0 : Sl .u8 w a0 n0 c0 l0) (h1 : Sl .u8 w a1 n1 c1 l1) (p0 : 0 < n0) (b0 : n0 ≤ 524288) (p1 : 0 < n1) (b1 : n1 ≤ 524288) :
    Calls Try.prog 18 #[.slice a0 n0 c0, .slice a1 n1 c1] w fun e w' => e = .returned (.slice (some ⟨w.heap.size, 0, none⟩) (n0 + n1) (n0 + n1)) ∧ w'.cell? ⟨w.heap.size, 0, none⟩ = some (.int .u8 (l0.getD 0 0)) ∧ Kept no w w' := by
  have hmk := run_make_row' (P := Try.prog) 32 5 (.int .u8 0) 1 Try.underlying32 Try.info5 rfl .i64 .i64 (n0 + n1) (by omega) (by omega)
  rw [show (((n0 + n1) : Nat) : Int) = (n0 : Int) + (n1 : Int) by omega] at hmk
  have hb0 : Below w.heap.size w (w.alloc (.cells (madeCells #[.int .u8 0] (n0 + n1)) 5)) := (Below.refl _ w).alloc (Nat.le_refl _) _
  have hsrc := h0.src rfl hb0
  have HL0 : Hid (l0.length = n0) := h0.len
  have HL1 : Hid (l1.length = n1) := h1.len
  have M1 : Hid ((l0.map (Value.int .u8)).length = Nat.min n0 (n0 + n1)) := by show _ = _; rw [List.length_map, HL0.out]; exact (Nat.min_eq_left (by omega)).symm
  have F1 : Hid (0 + (l0.map (Value.int .u8)).length ≤ (madeCells #[.int .u8 0] (n0 + n1)).toList.length) := by show _ ≤ _; rw [List.length_map, HL0.out, Array.length_toList, size_madeCells]; omega
  have M2 : Hid ((l1.map (Value.int .u8)).length = Nat.min n1 n1) := by show _ = _; rw [List.length_map, HL1.out]; exact (Nat.min_eq_left (by omega)).symm
  have P2 : Hid (0 < (l1.map (Value.int .u8)).length → 0 < n1) := by show _ → _; rw [List.length_map, HL1.out]; exact id
  have F2 : Hid (n0 + (l1.map (Value.int .u8)).length ≤ (splice (madeCells #[.int .u8 0] (n0 + n1)).toList 0 (l0.map (Value.int .u8))).length) := by
    show _ ≤ _
    rw [length_splice _ _ _ F1.out, List.length_map, HL1.out, Array.length_toList, size_madeCells]; omega
  have HX : Hid ((splice (splice (madeCells #[.int .u8 0] (n0 + n1)).toList 0 (l0.map (Value.int .u8))) n0 (l1.map (Value.int .u8)))[0]? = some (.int .u8 (l0.getD 0 0))) := by
    show _ = _
    have hl : 0 < l0.length := by rw [HL0.out]; exact p0
    rw [splice, List.getElem?_append_left (by rw [List.length_take, length_splice _ _ _ F1.out, Array.length_toList, size_madeCells]; omega), List.getElem?_take, if_pos p0]
    simp only [splice, List.take_zero, List.nil_append]
    rw [List.getElem?_append_left (by simpa using hl)]
    simp [List.getElem?_eq_getElem hl]
  have Hsrc : Hid (0 < (l1.map (Value.int .u8)).length → ∀ w3, Below w.heap.size w w3 → ∃ ad, a1 = some ad ∧ ∀ (j : Nat) (v : Value), (l1.map (Value.int .u8))[j]? = some v → w3.cell? (ad.add j) = some v) := fun hp w3 hb => h1.src rfl hb hp
  generalize l0.getD 0 0 = x at HX ⊢
  go_enter Try.func18, Try.ntmps18
  go_wp2_with (first
    | (refine wpList_copy_splice rfl (.tmp 12) (.tmp 13) 32 32 rfl 5 Try.underlying32 Try.size5 _ _ _ _ _ _ rfl rfl w.heap.size 0 (madeCells #[.int .u8 0] (n0 + n1)).toList 5 (heap_new _ _) (l0.map (Value.int .u8)) M1.out (fun hp => ⟨rfl, hsrc hp⟩) F1.out (by simp [Value.oneCell']) w.heap.size w hb0 (Nat.le_refl _) ?_; intro w3 hg3 hb3)
    | (refine wpList_copy_splice rfl (.tmp 18) (.tmp 19) 32 32 rfl 5 Try.underlying32 Try.size5 _ _ _ _ _ _ rfl rfl w.heap.size n0 (splice (madeCells #[.int .u8 0] (n0 + n1)).toList 0 (l0.map (Value.int .u8))) 5 hg3.out (l1.map (Value.int .u8)) M2.out (fun hp => ⟨rfl, Hsrc.out hp w3 hb3⟩) F2.out (by simp [Value.oneCell']) w.heap.size w hb3 (Nat.le_refl _) ?_; intro w5 hg5 hb5))
  go_ret
  refine ⟨rfl, ?_, hb5.os, hb5.tape, hb5.output, hb5.size, fun k hk _ => hb5.block k hk⟩
  rw [cell_of_row hg5.out]
  exact HX.out

set_option maxHeartbeats 1000000 in
theorem concat18_z (a0 a1 : Option Addr) (n0 c0 c1 : Nat) (l0 l1 : List Int) (w : World) (h0 : Sl .u8 w a0 n0 c0 l0) (h1 : Sl .u8 w a1 0 c1 l1) (p0 : 0 < n0) (b0 : n0 ≤ 524288) :
    Calls Try.prog 18 #[.slice a0 n0 c0, .slice a1 0 c1] w fun e w' => e = .returned (.slice (some ⟨w.heap.size, 0, none⟩) n0 n0) ∧ w'.cell? ⟨w.heap.size, 0, none⟩ = some (.int .u8 (l0.getD 0 0)) ∧ Kept no w w' := by
  have hmk := run_make_row' (P := Try.prog) 32 5 (.int .u8 0) 1 Try.underlying32 Try.info5 rfl .i64 .i64 n0 (by omega) (by omega)
  rw [show ((n0 : Nat) : Int) = (n0 : Int) by omega] at hmk
  have hb0 : Below w.heap.size w (w.alloc (.cells (madeCells #[.int .u8 0] n0) 5)) := (Below.refl _ w).alloc (Nat.le_refl _) _
  have hsrc := h0.src rfl hb0
  have HL0 : Hid (l0.length = n0) := h0.len
  have HL1 : Hid (l1.length = 0) := h1.len
  have M1 : Hid ((l0.map (Value.int .u8)).length = Nat.min n0 n0) := by show _ = _; rw [List.length_map, HL0.out]; exact (Nat.min_eq_left (by omega)).symm
  have F1 : Hid (0 + (l0.map (Value.int .u8)).length ≤ (madeCells #[.int .u8 0] n0).toList.length) := by show _ ≤ _; rw [List.length_map, HL0.out, Array.length_toList, size_madeCells]; omega
  have M2 : Hid ((l1.map (Value.int .u8)).length = Nat.min 0 0) := by show _ = _; rw [List.length_map, HL1.out]; exact (Nat.min_eq_left (by omega)).symm
  have P2 : Hid (0 < (l1.map (Value.int .u8)).length → 0 < 0) := by show _ → _; rw [List.length_map, HL1.out]; exact id
  have F2 : Hid (n0 + (l1.map (Value.int .u8)).length ≤ (splice (madeCells #[.int .u8 0] n0).toList 0 (l0.map (Value.int .u8))).length) := by
    show _ ≤ _
    rw [length_splice _ _ _ F1.out, List.length_map, HL1.out, Array.length_toList, size_madeCells]; omega
  have HX : Hid ((splice (splice (madeCells #[.int .u8 0] n0).toList 0 (l0.map (Value.int .u8))) n0 (l1.map (Value.int .u8)))[0]? = some (.int .u8 (l0.getD 0 0))) := by
    show _ = _
    have hl : 0 < l0.length := by rw [HL0.out]; exact p0
    rw [splice, List.getElem?_append_left (by rw [List.length_take, length_splice _ _ _ F1.out, Array.length_toList, size_madeCells]; omega), List.getElem?_take, if_pos p0]
    simp only [splice, List.take_zero, List.nil_append]
    rw [List.getElem?_append_left (by simpa using hl)]
    simp [List.getElem?_eq_getElem hl]
  have Hsrc : Hid (0 < (l1.map (Value.int .u8)).length → ∀ w3, Below w.heap.size w w3 → ∃ ad, a1 = some ad ∧ ∀ (j : Nat) (v : Value), (l1.map (Value.int .u8))[j]? = some v → w3.cell? (ad.add j) = some v) := fun hp w3 hb => h1.src rfl hb hp
  generalize l0.getD 0 0 = x at HX ⊢
  go_enter Try.func18, Try.ntmps18
  go_wp2_with (first
    | (refine wpList_copy_splice rfl (.tmp 12) (.tmp 13) 32 32 rfl 5 Try.underlying32 Try.size5 _ _ _ _ _ _ rfl rfl w.heap.size 0 (madeCells #[.int .u8 0] n0).toList 5 (heap_new _ _) (l0.map (Value.int .u8)) M1.out (fun hp => ⟨rfl, hsrc hp⟩) F1.out (by simp [Value.oneCell']) w.heap.size w hb0 (Nat.le_refl _) ?_; intro w3 hg3 hb3)
    | (refine wpList_copy_splice rfl (.tmp 18) (.tmp 19) 32 32 rfl 5 Try.underlying32 Try.size5 _ _ _ _ _ _ rfl rfl w.heap.size n0 (splice (madeCells #[.int .u8 0] n0).toList 0 (l0.map (Value.int .u8))) 5 hg3.out (l1.map (Value.int .u8)) M2.out (fun hp => ⟨absurd (P2.out hp) (by omega), Hsrc.out hp w3 hb3⟩) F2.out (by simp [Value.oneCell']) w.heap.size w hb3 (Nat.le_refl _) ?_; intro w5 hg5 hb5))
  go_ret
  refine ⟨rfl, ?_, hb5.os, hb5.tape, hb5.output, hb5.size, fun k hk _ => hb5.block k hk⟩
  rw [cell_of_row hg5.out]
  exact HX.out

theorem concat18 (a0 a1 : Option Addr) (n0 c0 n1 c1 : Nat) (l0 l1 : List Int) (w : World) (h0 : Sl .u8 w a0 n0 c0 l0) (h1 : Sl .u8 w a1 n1 c1 l1) (p0 : 0 < n0) (b0 : n0 ≤ 524288) (b1 : n1 ≤ 524288) :
    Calls Try.prog 18 #[.slice a0 n0 c0, .slice a1 n1 c1] w fun e w' => ∃ g N, e = .returned (.slice (some ⟨g, 0, none⟩) N N) ∧ 0 < N ∧ w'.cell? ⟨g, 0, none⟩ = some (.int .u8 (l0.getD 0 0)) ∧ Kept no w w' := by
  rcases Nat.eq_zero_or_pos n1 with z | p
  · subst z
    refine (concat18_z a0 a1 n0 c0 c1 l0 l1 w h0 h1 p0 b0).mono ?_
    rintro e w' ⟨rfl, hc, hk⟩
    exact ⟨_, _, rfl, p0, hc, hk⟩
  · refine (concat18_p a0 a1 n0 c0 n1 c1 l0 l1 w h0 h1 p0 b0 p b1).mono ?_
    rintro e w' ⟨rfl, hc, hk⟩
    exact ⟨_, _, rfl, by omega, hc, hk⟩
end Go.Proofs.Qxb6600532a
