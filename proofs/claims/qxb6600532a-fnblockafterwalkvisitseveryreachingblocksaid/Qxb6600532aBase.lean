/-
  Slices of numbers as the walks see them; cloning.
-/
import Derived.Test.Qxb6600532aRows
import Derived.WalkKit
import Derived.WalkSpells
import Derived.WalkLawsBesides
import Derived.ProofKit
import Derived.OpenShut
import Derived.Laws.CopyOwn
import Derived.Lib.SliceRun
import Derived.Deep.OwnRows
namespace Go.Proofs.Qxb6600532a
open Go.RowKit
set_option linter.unusedVariables false

/-- The slice value 'a, n, c' leads, in the world w, to the n numbers l. -/
structure Sl (k : IntKind) (w : World) (a : Option Addr) (n c : Nat) (l : List Int) : Prop where
  len : l.length = n
  le : n ≤ c
  max : c ≤ maxLen
  nil : a = none → n = 0 ∧ c = 0
  cells : 0 < n → ∃ b off, a = some ⟨b, off, none⟩ ∧ ∀ i, i < n → w.cell? ⟨b, off + i, none⟩ = some (.int k (l.getD i 0))
  wf : ∀ x ∈ l, (Lit.int k x).wf = true

theorem Try.info31 : (Try.prog.info? 31).map (fun i => (i.zero, i.size, i.bytes)) = some (some (.int .u16 0), 1, 2) := by kernel_rfl
theorem Try.info5 : (Try.prog.info? 5).map (fun i => (i.zero, i.size, i.bytes)) = some (some (.int .u8 0), 1, 1) := by kernel_rfl

theorem Try.size5 : (Try.prog.info? 5).map (·.size) = some 1 := by kernel_rfl
theorem Try.size31 : (Try.prog.info? 31).map (·.size) = some 1 := by kernel_rfl

theorem heap_new (w : World) (o : Obj) : (w.alloc o).heap[w.heap.size]? = some o := by
  show (w.heap.push o)[w.heap.size]? = _
  simp

theorem splice_all {α : Type} (L cs : List α) (h : cs.length = L.length) : splice L 0 cs = cs := by
  simp [splice, h]

theorem Sl.src {k : IntKind} {w : World} {a : Option Addr} {n c : Nat} {l : List Int} (h : Sl k w a n c l) {W : World} {B : Nat} (hB : B = w.heap.size) (hb : Below B w W) :
    0 < (l.map (Value.int k)).length → ∃ ad, a = some ad ∧ ∀ (j : Nat) (v : Value), (l.map (Value.int k))[j]? = some v → W.cell? (ad.add j) = some v := by
  intro hp
  subst hB
  obtain ⟨b, off, ha, hc⟩ := h.cells (by have := h.len; simp at hp; omega)
  refine ⟨_, ha, fun j v hj => ?_⟩
  have hjl : j < l.length := by
    rcases Nat.lt_or_ge j l.length with h | h
    · exact h
    · simp [List.getElem?_eq_none h] at hj
  have hcj := hc j (by have := h.len; omega)
  have hlt : b < w.heap.size := by
    rcases Nat.lt_or_ge b w.heap.size with h' | h'
    · exact h'
    · simp [World.cell?, Array.getElem?_eq_none h'] at hcj
  simp [List.getElem?_eq_getElem hjl] at hj
  subst hj
  rw [WideShapes.add_plain, hb.cell (p := ⟨b, off + j, none⟩) hlt, hcj]
  simp [List.getElem?_eq_getElem hjl]

/-- A block that holds l whole is a slice of l. -/
theorem Sl.of_block {k : IntKind} {w w' : World} {a : Option Addr} {n c : Nat} {l : List Int} (h : Sl k w a n c l) (hn : n ≤ 1048576) {g : Nat} {t : TypeId} (hg : w'.heap[g]? = some (.cells (l.map (Value.int k)).toArray t (0, 0))) :
    Sl k w' (some ⟨g, 0, none⟩) n n l := by
  refine ⟨h.len, Nat.le_refl _, by unfold maxLen; omega, fun e => by simp at e, fun _ => ⟨g, 0, rfl, fun i hi => ?_⟩, h.wf⟩
  have := h.len
  simp [World.cell?, hg, List.getElem?_eq_getElem (show i < l.length by omega)]

set_option maxHeartbeats 400000 in
theorem clone15_some (x : Addr) (n c : Nat) (l : List Int) (w : World) (hn : n ≤ 1048576) (h : Sl .u8 w (some x) n c l) :
    Calls Try.prog 15 #[.slice (some x) n c] w fun e w' => e = .returned (.slice (some ⟨w.heap.size, 0, none⟩) n n) ∧ Below w.heap.size w w' ∧ w'.heap[w.heap.size]? = some (.cells (l.map (Value.int .u8)).toArray 5 (0, 0)) := by
  have hnil := fun w => Lib.run_eql_slice_nil (P := Try.prog) w 32 5 (some x) n c 0 0 Try.underlying32
  have hmk := run_make_row' (P := Try.prog) 32 5 (.int .u8 0) 1 Try.underlying32 Try.info5 rfl .i64 .i64 n (by omega) (by omega)
  have hl := h.len
  have hb0 : Below w.heap.size w (w.alloc (.cells (madeCells #[.int .u8 0] n) 5)) := (Below.refl _ w).alloc (Nat.le_refl _) _
  have hsrc := h.src rfl hb0
  go_enter Try.func15, Try.ntmps15
  go_wp2_with (refine wpList_copy_splice rfl (.tmp 9) (.tmp 10) 32 32 rfl 5 Try.underlying32 Try.size5 _ _ _ _ _ _ rfl rfl w.heap.size 0 (madeCells #[.int .u8 0] n).toList 5 (heap_new _ _) (l.map (Value.int .u8)) (by simp [hl]) (fun hp => ⟨rfl, hsrc hp⟩) (by simp [size_madeCells, hl]) (by simp [Value.oneCell']) w.heap.size w hb0 (Nat.le_refl _) ?_; intro w2 hg2 hb2)
  go_ret
  refine ⟨rfl, hb2, ?_⟩
  have := hg2.out
  rw [splice_all _ _ (by simp [size_madeCells, hl])] at this
  exact this

set_option maxHeartbeats 400000 in
theorem clone15_nil (w : World) :
    Calls Try.prog 15 #[.slice none 0 0] w fun e w' => e = .returned (.slice none 0 0) ∧ w' = w := by
  have hnil := fun w => Lib.run_eql_slice_nil (P := Try.prog) w 32 5 none 0 0 0 0 Try.underlying32
  go_enter Try.func15, Try.ntmps15
  go_wp2
  go_ret
  exact ⟨rfl, rfl⟩

theorem clone15 (a : Option Addr) (n c : Nat) (l : List Int) (w : World) (hn : n ≤ 1048576) (h : Sl .u8 w a n c l) :
    Calls Try.prog 15 #[.slice a n c] w fun e w' => ∃ a' c', e = .returned (.slice a' n c') ∧ Below w.heap.size w w' ∧ Sl .u8 w' a' n c' l ∧ (a' = none ↔ a = none) := by
  cases a with
  | none =>
    obtain ⟨rfl, rfl⟩ := h.nil rfl
    refine (clone15_nil w).mono ?_
    rintro e w' ⟨rfl, rfl⟩
    exact ⟨none, 0, rfl, Below.refl _ _, h, Iff.rfl⟩
  | some x =>
    refine (clone15_some x n c l w hn h).mono ?_
    rintro e w' ⟨rfl, hb, hg⟩
    exact ⟨_, n, rfl, hb, Sl.of_block h hn hg, by simp⟩

set_option maxHeartbeats 400000 in
theorem clone8_some (x : Addr) (n c : Nat) (l : List Int) (w : World) (hn : n ≤ 1048576) (h : Sl .u16 w (some x) n c l) :
    Calls Try.prog 8 #[.slice (some x) n c] w fun e w' => e = .returned (.slice (some ⟨w.heap.size, 0, none⟩) n n) ∧ Below w.heap.size w w' ∧ w'.heap[w.heap.size]? = some (.cells (l.map (Value.int .u16)).toArray 31 (0, 0)) := by
  have hnil := fun w => Lib.run_eql_slice_nil (P := Try.prog) w 22 31 (some x) n c 0 0 Try.underlying22
  have hmk := run_make_row' (P := Try.prog) 22 31 (.int .u16 0) 2 Try.underlying22 Try.info31 rfl .i64 .i64 n (by omega) (by omega)
  have hl := h.len
  have hb0 : Below w.heap.size w (w.alloc (.cells (madeCells #[.int .u16 0] n) 31)) := (Below.refl _ w).alloc (Nat.le_refl _) _
  have hsrc := h.src rfl hb0
  go_enter Try.func8, Try.ntmps8
  go_wp2_with (refine wpList_copy_splice rfl (.tmp 9) (.tmp 10) 22 22 rfl 31 Try.underlying22 Try.size31 _ _ _ _ _ _ rfl rfl w.heap.size 0 (madeCells #[.int .u16 0] n).toList 31 (heap_new _ _) (l.map (Value.int .u16)) (by simp [hl]) (fun hp => ⟨rfl, hsrc hp⟩) (by simp [size_madeCells, hl]) (by simp [Value.oneCell']) w.heap.size w hb0 (Nat.le_refl _) ?_; intro w2 hg2 hb2)
  go_ret
  refine ⟨rfl, hb2, ?_⟩
  have := hg2.out
  rw [splice_all _ _ (by simp [size_madeCells, hl])] at this
  exact this

set_option maxHeartbeats 400000 in
theorem clone8_nil (w : World) :
    Calls Try.prog 8 #[.slice none 0 0] w fun e w' => e = .returned (.slice none 0 0) ∧ w' = w := by
  have hnil := fun w => Lib.run_eql_slice_nil (P := Try.prog) w 22 31 none 0 0 0 0 Try.underlying22
  go_enter Try.func8, Try.ntmps8
  go_wp2
  go_ret
  exact ⟨rfl, rfl⟩

theorem clone8 (a : Option Addr) (n c : Nat) (l : List Int) (w : World) (hn : n ≤ 1048576) (h : Sl .u16 w a n c l) :
    Calls Try.prog 8 #[.slice a n c] w fun e w' => ∃ a' c', e = .returned (.slice a' n c') ∧ Below w.heap.size w w' ∧ Sl .u16 w' a' n c' l ∧ (a' = none ↔ a = none) := by
  cases a with
  | none =>
    obtain ⟨rfl, rfl⟩ := h.nil rfl
    refine (clone8_nil w).mono ?_
    rintro e w' ⟨rfl, rfl⟩
    exact ⟨none, 0, rfl, Below.refl _ _, h, Iff.rfl⟩
  | some x =>
    refine (clone8_some x n c l w hn h).mono ?_
    rintro e w' ⟨rfl, hb, hg⟩
    exact ⟨_, n, rfl, hb, Sl.of_block h hn hg, by simp⟩

theorem Sl.below {k : IntKind} {w w' : World} {a : Option Addr} {n c : Nat} {l : List Int} (h : Sl k w a n c l) (hb : Below w.heap.size w w') : Sl k w' a n c l := by
  refine ⟨h.len, h.le, h.max, h.nil, fun h0 => ?_, h.wf⟩
  obtain ⟨b, off, ha, hc⟩ := h.cells h0
  refine ⟨b, off, ha, fun i hi => ?_⟩
  have hcj := hc i hi
  have hlt : b < w.heap.size := by
    rcases Nat.lt_or_ge b w.heap.size with h' | h'
    · exact h'
    · simp [World.cell?, Array.getElem?_eq_none h'] at hcj
  rw [hb.cell (p := ⟨b, off + i, none⟩) hlt]; exact hcj

theorem heap_setCell_row {w : World} {g : Nat} {cur : List Value} {t : TypeId} {m : Nat × Nat} (h : w.heap[g]? = some (.cells cur.toArray t m)) (i : Nat) (v : Value) :
    (w.setCell ⟨g, i, none⟩ v).heap[g]? = some (.cells (cur.set i v).toArray t m) := by
  simp [World.setCell, Array.getElem?_modify, h]

theorem cell_of_row {w : World} {g : Nat} {cur : List Value} {t : TypeId} {m : Nat × Nat} (h : w.heap[g]? = some (.cells cur.toArray t m)) (i : Nat) :
    w.cell? ⟨g, i, none⟩ = cur[i]? := by
  rw [World.cell?, h]; simp

theorem frozen_of_row {w : World} {g : Nat} {cur : List Value} {t : TypeId} (h : w.heap[g]? = some (.cells cur.toArray t (0, 0))) (i : Nat) :
    w.frozen? ⟨g, i, none⟩ = false := by
  simp [World.frozen?, h]


/-- Every block that was there, but for those of p, is as it was. -/
structure Kept (p : Nat → Prop) (w w' : World) : Prop where
  os : w'.os = w.os
  tape : w'.tape = w.tape
  output : w'.output = w.output
  size : w.heap.size ≤ w'.heap.size
  block : ∀ k, k < w.heap.size → ¬ p k → w'.heap[k]? = w.heap[k]?

def no : Nat → Prop := fun _ => False

theorem Kept.refl (p : Nat → Prop) (w : World) : Kept p w w := ⟨rfl, rfl, rfl, Nat.le_refl _, fun _ _ _ => rfl⟩

theorem Kept.trans {p q r : Nat → Prop} {a b c : World} (h : Kept p a b) (k : Kept q b c) (hp : ∀ i, i < a.heap.size → p i → r i) (hq : ∀ i, i < a.heap.size → q i → r i) : Kept r a c :=
  ⟨k.os.trans h.os, k.tape.trans h.tape, k.output.trans h.output, Nat.le_trans h.size k.size, fun i hi hr => (k.block i (Nat.lt_of_lt_of_le hi h.size) fun e => hr (hq i hi e)).trans (h.block i hi fun e => hr (hp i hi e))⟩

theorem Kept.same {p : Nat → Prop} {a b c : World} (h : Kept p a b) (k : Kept p b c) : Kept p a c := h.trans k (fun _ _ e => e) (fun _ _ e => e)

theorem Kept.mono {p q : Nat → Prop} {a b : World} (h : Kept p a b) (hp : ∀ i, i < a.heap.size → p i → q i) : Kept q a b := h.trans (Kept.refl q b) hp (fun _ _ e => e)

theorem Kept.drew {p : Nat → Prop} {a w : World} (h : Kept p a w) : Kept p a w.drew := ⟨h.os, h.tape, h.output, h.size, h.block⟩
theorem Kept.drewN {p : Nat → Prop} {a w : World} (h : Kept p a w) (n : Nat) : Kept p a (w.drewN n) := ⟨h.os, h.tape, h.output, h.size, h.block⟩

theorem Kept.alloc {p : Nat → Prop} {a w : World} (h : Kept p a w) (o : Obj) : Kept p a (w.alloc o) :=
  h.same ⟨rfl, rfl, rfl, by simp, fun k hk _ => Below.heap_alloc _ _ _ hk⟩

theorem Kept.setCell {p : Nat → Prop} {a w : World} (h : Kept p a w) {q : Addr} (hq : p q.block ∨ a.heap.size ≤ q.block) (u : Value) : Kept p a (w.setCell q u) := by
  refine ⟨h.os, h.tape, h.output, by simpa [World.setCell] using h.size, fun k hk hp => ?_⟩
  rw [Below.heap_setCell _ _ _ _ (fun e => by subst e; rcases hq with hq | hq; exact hp hq; omega)]
  exact h.block k hk hp

theorem Kept.grown {p : Nat → Prop} {a w w' : World} {row : Option Nat} (h : Kept p a w) (hg : w.grownBy w' row) (hr : ∀ k, row = some k → p k ∨ a.heap.size ≤ k) : Kept p a w' := by
  refine ⟨hg.os.trans h.os, hg.tape.trans h.tape, hg.output.trans h.output, Nat.le_trans h.size hg.size, fun k hk hp => ?_⟩
  rw [hg.block k (Nat.lt_of_lt_of_le hk h.size) (fun e => by rcases hr k e.symm with h1 | h1; exact hp h1; omega)]
  exact h.block k hk hp

theorem Kept.below {p : Nat → Prop} {w w' : World} (h : Kept p w w') {B : Nat} (hB : B ≤ w.heap.size) (hp : ∀ k, p k → B ≤ k) : Below B w w' :=
  ⟨h.os, h.tape, h.output, h.size, fun k hk => h.block k (by omega) fun e => by have := hp k e; omega⟩

theorem Kept.heap {p : Nat → Prop} {w w' : World} (h : Kept p w w') {k : Nat} {o : Obj} (ho : w.heap[k]? = some o) (hk : ¬ p k) : w'.heap[k]? = some o := by
  rw [h.block k (lt_of_block ho) hk]; exact ho

theorem Kept.owns {p : Nat → Prop} {w w' : World} (h : Kept p w w') {base : Nat} {e : TypeId} {size : Nat} {v : Value} {n : Nat} {xs : List Value} (ho : w.ownsRow base e size v n xs) (hk : ∀ k, v.ownBlock = some k → ¬ p k) : w'.ownsRow base e size v n xs := by
  refine ⟨ho.1, ?_⟩
  rcases ho.2 with h2 | ⟨g, cap, cur, rfl, hb, hg, rest⟩
  · exact .inl h2
  · exact .inr ⟨g, cap, cur, rfl, hb, h.heap hg (hk g rfl), rest⟩

theorem Kept.sl {p : Nat → Prop} {w w' : World} (h : Kept p w w') {k : IntKind} {a : Option Addr} {n c : Nat} {l : List Int} (hs : Sl k w a n c l) (hp : ∀ b, (∃ off, a = some ⟨b, off, none⟩) → ¬ p b) : Sl k w' a n c l := by
  refine ⟨hs.len, hs.le, hs.max, hs.nil, fun h0 => ?_, hs.wf⟩
  obtain ⟨b, off, ha, hc⟩ := hs.cells h0
  refine ⟨b, off, ha, fun i hi => ?_⟩
  have hcj := hc i hi
  have hlt : b < w.heap.size := by
    rcases Nat.lt_or_ge b w.heap.size with h' | h'
    · exact h'
    · simp [World.cell?, Array.getElem?_eq_none h'] at hcj
  rw [World.cell?_of_block (w := w) (h.block b hlt (hp b ⟨off, ha⟩))]; exact hcj


end Go.Proofs.Qxb6600532a
