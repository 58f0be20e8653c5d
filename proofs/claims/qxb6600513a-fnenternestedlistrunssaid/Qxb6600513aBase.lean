/-
  Slices of numbers as the walks see them; cloning.
-/
import Derived.Test.Qxb6600513aRows
import Derived.WalkKit
import Derived.WalkSpells
import Derived.WalkLawsBesides
import Derived.ProofKit
import Derived.OpenShut
import Derived.Laws.CopyOwn
import Derived.Lib.SliceRun
import Derived.Deep.OwnRows
namespace Go.Proofs.Qxb6600513a
open Go.RowKit

/-- The slice value 'a, n, c' leads, in the world w, to the n numbers l. -/
structure Sl (k : IntKind) (w : World) (a : Option Addr) (n c : Nat) (l : List Int) : Prop where
  len : l.length = n
  le : n ≤ c
  max : c ≤ maxLen
  nil : a = none → n = 0 ∧ c = 0
  cells : 0 < n → ∃ b off, a = some ⟨b, off, none⟩ ∧ ∀ i, i < n → w.cell? ⟨b, off + i, none⟩ = some (.int k (l.getD i 0))
  wf : ∀ x ∈ l, (Lit.int k x).wf = true

theorem Try.info3 : (Try.prog.info? 3).map (fun i => (i.zero, i.size, i.bytes)) = some (some (.int .i64 0), 1, 8) := by kernel_rfl
theorem Try.info5 : (Try.prog.info? 5).map (fun i => (i.zero, i.size, i.bytes)) = some (some (.int .u8 0), 1, 1) := by kernel_rfl

theorem Try.size5 : (Try.prog.info? 5).map (·.size) = some 1 := by kernel_rfl
theorem Try.size3 : (Try.prog.info? 3).map (·.size) = some 1 := by kernel_rfl

theorem heap_new (w : World) (o : Obj) : (w.alloc o).heap[w.heap.size]? = some o := by
  show (w.heap.push o)[w.heap.size]? = _
  simp

theorem splice_all {α : Type} (L cs : List α) (h : cs.length = L.length) : splice L 0 cs = cs := by
  simp [splice, h]

theorem Sl.src {k : IntKind} {w : World} {a : Option Addr} {n c : Nat} {l : List Int} (h : Sl k w a n c l) {W : World} {B : Nat} (hB : B = w.heap.size) (hb : Below B w W) :
    0 < (l.map (Value.int k)).length → ∃ ad, a = some ad ∧ ∀ (j : Nat) (v : Value), (l.map (Value.int k))[j]? = some v → W.cell? (ad.add j) = some v := by
  intro hp
  subst hB
  obtain ⟨b, off, ha, hc⟩ := h.cells (by have := h.len; simp at hp; omega)
  refine ⟨_, ha, fun j v hj => ?_⟩
  have hjl : j < l.length := by
    rcases Nat.lt_or_ge j l.length with h | h
    · exact h
    · simp [List.getElem?_eq_none h] at hj
  have hcj := hc j (by have := h.len; omega)
  have hlt : b < w.heap.size := by
    rcases Nat.lt_or_ge b w.heap.size with h' | h'
    · exact h'
    · simp [World.cell?, Array.getElem?_eq_none h'] at hcj
  simp [List.getElem?_eq_getElem hjl] at hj
  subst hj
  rw [WideShapes.add_plain, hb.cell (p := ⟨b, off + j, none⟩) hlt, hcj]
  simp [List.getElem?_eq_getElem hjl]

/-- A block that holds l whole is a slice of l. -/
theorem Sl.of_block {k : IntKind} {w w' : World} {a : Option Addr} {n c : Nat} {l : List Int} (h : Sl k w a n c l) (hn : n ≤ 1048576) {g : Nat} {t : TypeId} (hg : w'.heap[g]? = some (.cells (l.map (Value.int k)).toArray t (0, 0))) :
    Sl k w' (some ⟨g, 0, none⟩) n n l := by
  refine ⟨h.len, Nat.le_refl _, by unfold maxLen; omega, fun e => by simp at e, fun _ => ⟨g, 0, rfl, fun i hi => ?_⟩, h.wf⟩
  have := h.len
  simp [World.cell?, hg, List.getElem?_eq_getElem (show i < l.length by omega)]

set_option maxHeartbeats 400000 in
theorem clone8_some (x : Addr) (n c : Nat) (l : List Int) (w : World) (hn : n ≤ 1048576) (h : Sl .u8 w (some x) n c l) :
    Calls Try.prog 8 #[.slice (some x) n c] w fun e w' => e = .returned (.slice (some ⟨w.heap.size, 0, none⟩) n n) ∧ Below w.heap.size w w' ∧ w'.heap[w.heap.size]? = some (.cells (l.map (Value.int .u8)).toArray 5 (0, 0)) := by
  have hnil := fun w => Lib.run_eql_slice_nil (P := Try.prog) w 22 5 (some x) n c 0 0 Try.underlying22
  have hmk := run_make_row' (P := Try.prog) 22 5 (.int .u8 0) 1 Try.underlying22 Try.info5 rfl .i64 .i64 n (by omega) (by omega)
  have hl := h.len
  have hb0 : Below w.heap.size w (w.alloc (.cells (madeCells #[.int .u8 0] n) 5)) := (Below.refl _ w).alloc (Nat.le_refl _) _
  have hsrc := h.src rfl hb0
  go_enter Try.func8, Try.ntmps8
  go_wp2_with (refine wpList_copy_splice rfl (.tmp 9) (.tmp 10) 22 22 rfl 5 Try.underlying22 Try.size5 _ _ _ _ _ _ rfl rfl w.heap.size 0 (madeCells #[.int .u8 0] n).toList 5 (heap_new _ _) (l.map (Value.int .u8)) (by simp [hl]) (fun hp => ⟨rfl, hsrc hp⟩) (by simp [size_madeCells, hl]) (by simp [Value.oneCell']) w.heap.size w hb0 (Nat.le_refl _) ?_; intro w2 hg2 hb2)
  go_ret
  refine ⟨rfl, hb2, ?_⟩
  have := hg2.out
  rw [splice_all _ _ (by simp [size_madeCells, hl])] at this
  exact this

set_option maxHeartbeats 400000 in
theorem clone8_nil (w : World) :
    Calls Try.prog 8 #[.slice none 0 0] w fun e w' => e = .returned (.slice none 0 0) ∧ w' = w := by
  have hnil := fun w => Lib.run_eql_slice_nil (P := Try.prog) w 22 5 none 0 0 0 0 Try.underlying22
  go_enter Try.func8, Try.ntmps8
  go_wp2
  go_ret
  exact ⟨rfl, rfl⟩

theorem clone8 (a : Option Addr) (n c : Nat) (l : List Int) (w : World) (hn : n ≤ 1048576) (h : Sl .u8 w a n c l) :
    Calls Try.prog 8 #[.slice a n c] w fun e w' => ∃ a' c', e = .returned (.slice a' n c') ∧ Below w.heap.size w w' ∧ Sl .u8 w' a' n c' l ∧ (a' = none ↔ a = none) := by
  cases a with
  | none =>
    obtain ⟨rfl, rfl⟩ := h.nil rfl
    refine (clone8_nil w).mono ?_
    rintro e w' ⟨rfl, rfl⟩
    exact ⟨none, 0, rfl, Below.refl _ _, h, Iff.rfl⟩
  | some x =>
    refine (clone8_some x n c l w hn h).mono ?_
    rintro e w' ⟨rfl, hb, hg⟩
    exact ⟨_, n, rfl, hb, Sl.of_block h hn hg, by simp⟩

set_option maxHeartbeats 400000 in
theorem clone14_some (x : Addr) (n c : Nat) (l : List Int) (w : World) (hn : n ≤ 1048576) (h : Sl .i64 w (some x) n c l) :
    Calls Try.prog 14 #[.slice (some x) n c] w fun e w' => e = .returned (.slice (some ⟨w.heap.size, 0, none⟩) n n) ∧ Below w.heap.size w w' ∧ w'.heap[w.heap.size]? = some (.cells (l.map (Value.int .i64)).toArray 3 (0, 0)) := by
  have hnil := fun w => Lib.run_eql_slice_nil (P := Try.prog) w 29 3 (some x) n c 0 0 Try.underlying29
  have hmk := run_make_row' (P := Try.prog) 29 3 (.int .i64 0) 8 Try.underlying29 Try.info3 rfl .i64 .i64 n (by omega) (by omega)
  have hl := h.len
  have hb0 : Below w.heap.size w (w.alloc (.cells (madeCells #[.int .i64 0] n) 3)) := (Below.refl _ w).alloc (Nat.le_refl _) _
  have hsrc := h.src rfl hb0
  go_enter Try.func14, Try.ntmps14
  go_wp2_with (refine wpList_copy_splice rfl (.tmp 9) (.tmp 10) 29 29 rfl 3 Try.underlying29 Try.size3 _ _ _ _ _ _ rfl rfl w.heap.size 0 (madeCells #[.int .i64 0] n).toList 3 (heap_new _ _) (l.map (Value.int .i64)) (by simp [hl]) (fun hp => ⟨rfl, hsrc hp⟩) (by simp [size_madeCells, hl]) (by simp [Value.oneCell']) w.heap.size w hb0 (Nat.le_refl _) ?_; intro w2 hg2 hb2)
  go_ret
  refine ⟨rfl, hb2, ?_⟩
  have := hg2.out
  rw [splice_all _ _ (by simp [size_madeCells, hl])] at this
  exact this

set_option maxHeartbeats 400000 in
theorem clone14_nil (w : World) :
    Calls Try.prog 14 #[.slice none 0 0] w fun e w' => e = .returned (.slice none 0 0) ∧ w' = w := by
  have hnil := fun w => Lib.run_eql_slice_nil (P := Try.prog) w 29 3 none 0 0 0 0 Try.underlying29
  go_enter Try.func14, Try.ntmps14
  go_wp2
  go_ret
  exact ⟨rfl, rfl⟩

theorem clone14 (a : Option Addr) (n c : Nat) (l : List Int) (w : World) (hn : n ≤ 1048576) (h : Sl .i64 w a n c l) :
    Calls Try.prog 14 #[.slice a n c] w fun e w' => ∃ a' c', e = .returned (.slice a' n c') ∧ Below w.heap.size w w' ∧ Sl .i64 w' a' n c' l ∧ (a' = none ↔ a = none) := by
  cases a with
  | none =>
    obtain ⟨rfl, rfl⟩ := h.nil rfl
    refine (clone14_nil w).mono ?_
    rintro e w' ⟨rfl, rfl⟩
    exact ⟨none, 0, rfl, Below.refl _ _, h, Iff.rfl⟩
  | some x =>
    refine (clone14_some x n c l w hn h).mono ?_
    rintro e w' ⟨rfl, hb, hg⟩
    exact ⟨_, n, rfl, hb, Sl.of_block h hn hg, by simp⟩

end Go.Proofs.Qxb6600513a
