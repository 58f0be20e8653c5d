/-
  A written scan in memory; what a call keeps.
-/
import Derived.Test.Qxb6600513aParts
import Derived.Deep.AppendLies
namespace Go.Proofs.Qxb6600513a
open Go.RowKit
set_option linter.unusedVariables false

/-- Every block that was there, but for those of p, is as it was. -/
structure Kept (p : Nat → Prop) (w w' : World) : Prop where
  os : w'.os = w.os
  tape : w'.tape = w.tape
  output : w'.output = w.output
  size : w.heap.size ≤ w'.heap.size
  block : ∀ k, k < w.heap.size → ¬ p k → w'.heap[k]? = w.heap[k]?

def no : Nat → Prop := fun _ => False

theorem Kept.refl (p : Nat → Prop) (w : World) : Kept p w w := ⟨rfl, rfl, rfl, Nat.le_refl _, fun _ _ _ => rfl⟩

theorem Kept.trans {p q r : Nat → Prop} {a b c : World} (h : Kept p a b) (k : Kept q b c) (hp : ∀ i, i < a.heap.size → p i → r i) (hq : ∀ i, i < a.heap.size → q i → r i) : Kept r a c :=
  ⟨k.os.trans h.os, k.tape.trans h.tape, k.output.trans h.output, Nat.le_trans h.size k.size, fun i hi hr => (k.block i (Nat.lt_of_lt_of_le hi h.size) fun e => hr (hq i hi e)).trans (h.block i hi fun e => hr (hp i hi e))⟩

theorem Kept.same {p : Nat → Prop} {a b c : World} (h : Kept p a b) (k : Kept p b c) : Kept p a c := h.trans k (fun _ _ e => e) (fun _ _ e => e)

theorem Kept.mono {p q : Nat → Prop} {a b : World} (h : Kept p a b) (hp : ∀ i, i < a.heap.size → p i → q i) : Kept q a b := h.trans (Kept.refl q b) hp (fun _ _ e => e)

theorem Kept.drew {p : Nat → Prop} {a w : World} (h : Kept p a w) : Kept p a w.drew := ⟨h.os, h.tape, h.output, h.size, h.block⟩
theorem Kept.drewN {p : Nat → Prop} {a w : World} (h : Kept p a w) (n : Nat) : Kept p a (w.drewN n) := ⟨h.os, h.tape, h.output, h.size, h.block⟩

theorem Kept.alloc {p : Nat → Prop} {a w : World} (h : Kept p a w) (o : Obj) : Kept p a (w.alloc o) :=
  h.same ⟨rfl, rfl, rfl, by simp, fun k hk _ => Below.heap_alloc _ _ _ hk⟩

theorem Kept.setCell {p : Nat → Prop} {a w : World} (h : Kept p a w) {q : Addr} (hq : p q.block ∨ a.heap.size ≤ q.block) (u : Value) : Kept p a (w.setCell q u) := by
  refine ⟨h.os, h.tape, h.output, by simpa [World.setCell] using h.size, fun k hk hp => ?_⟩
  rw [Below.heap_setCell _ _ _ _ (fun e => by subst e; rcases hq with hq | hq; exact hp hq; omega)]
  exact h.block k hk hp

theorem Kept.grown {p : Nat → Prop} {a w w' : World} {row : Option Nat} (h : Kept p a w) (hg : w.grownBy w' row) (hr : ∀ k, row = some k → p k ∨ a.heap.size ≤ k) : Kept p a w' := by
  refine ⟨hg.os.trans h.os, hg.tape.trans h.tape, hg.output.trans h.output, Nat.le_trans h.size hg.size, fun k hk hp => ?_⟩
  rw [hg.block k (Nat.lt_of_lt_of_le hk h.size) (fun e => by rcases hr k e.symm with h1 | h1; exact hp h1; omega)]
  exact h.block k hk hp

theorem Kept.below {p : Nat → Prop} {w w' : World} (h : Kept p w w') {B : Nat} (hB : B ≤ w.heap.size) (hp : ∀ k, p k → B ≤ k) : Below B w w' :=
  ⟨h.os, h.tape, h.output, h.size, fun k hk => h.block k (by omega) fun e => by have := hp k e; omega⟩

theorem Kept.heap {p : Nat → Prop} {w w' : World} (h : Kept p w w') {k : Nat} {o : Obj} (ho : w.heap[k]? = some o) (hk : ¬ p k) : w'.heap[k]? = some o := by
  rw [h.block k (lt_of_block ho) hk]; exact ho

theorem Kept.owns {p : Nat → Prop} {w w' : World} (h : Kept p w w') {base : Nat} {e : TypeId} {size : Nat} {v : Value} {n : Nat} {xs : List Value} (ho : w.ownsRow base e size v n xs) (hk : ∀ k, v.ownBlock = some k → ¬ p k) : w'.ownsRow base e size v n xs := by
  refine ⟨ho.1, ?_⟩
  rcases ho.2 with h2 | ⟨g, cap, cur, rfl, hb, hg, rest⟩
  · exact .inl h2
  · exact .inr ⟨g, cap, cur, rfl, hb, h.heap hg (hk g rfl), rest⟩

theorem Kept.sl {p : Nat → Prop} {w w' : World} (h : Kept p w w') {k : IntKind} {a : Option Addr} {n c : Nat} {l : List Int} (hs : Sl k w a n c l) (hp : ∀ b, (∃ off, a = some ⟨b, off, none⟩) → ¬ p b) : Sl k w' a n c l := by
  refine ⟨hs.len, hs.le, hs.max, hs.nil, fun h0 => ?_, hs.wf⟩
  obtain ⟨b, off, ha, hc⟩ := hs.cells h0
  refine ⟨b, off, ha, fun i hi => ?_⟩
  have hcj := hc i hi
  have hlt : b < w.heap.size := by
    rcases Nat.lt_or_ge b w.heap.size with h' | h'
    · exact h'
    · simp [World.cell?, Array.getElem?_eq_none h'] at hcj
  rw [World.cell?_of_block (w := w) (h.block b hlt (hp b ⟨off, ha⟩))]; exact hcj

/-! ### The scan's own block -/
def scanCells (D : Nat) (pos most : Int) (lv tv gv : Value) : Array Value := #[.slice (some ⟨D, 0, none⟩) 9 9, .int .i64 pos, .int .i64 most, lv, .int .i64 0, .int .i64 0, tv, gv]
def ScanAt (w : World) (S D : Nat) (pos most : Int) (lv tv gv : Value) : Prop := w.heap[S]? = some (.cells (scanCells D pos most lv tv gv) 49 (0, 0))
def dataNums : List Int := [45, 32, 97, 10, 98, 58, 32, 99, 10]
def DataAt (w : World) (D : Nat) : Prop := w.heap[D]? = some (.cells (dataNums.map (Value.int .u8)).toArray 5 (9, 10))
def listCells (ind : Int) (rpi : Bool) (anchor : Int) (rv : Value) (run earlier : Int) : Array Value := #[.int .i64 ind, .bool rpi, .bool false, .int .i64 anchor, rv, .int .i64 run, .int .i64 earlier]
def ListAt (w : World) (G : Nat) (ind : Int) (rpi : Bool) (anchor : Int) (rv : Value) (run earlier : Int) : Prop := w.heap[G]? = some (.cells (listCells ind rpi anchor rv run earlier) 57 (0, 0))
/-- One level's four cells. -/
def lev (ind : Int) (key : Bool) (colon : Int) (list : Option Nat) : List Value := [.int .i64 ind, .bool key, .int .i64 colon, .pointer (list.map fun g => ⟨g, 0, none⟩)]

theorem cell_of_arr {w : World} {g : Nat} {cur : Array Value} {t : TypeId} {m : Nat × Nat} (h : w.heap[g]? = some (.cells cur t m)) (i : Nat) : w.cell? ⟨g, i, none⟩ = cur[i]? := by
  rw [World.cell?, h]; simp
theorem frozen_of_arr {w : World} {g : Nat} {cur : Array Value} {t : TypeId} (h : w.heap[g]? = some (.cells cur t (0, 0))) (i : Nat) : w.frozen? ⟨g, i, none⟩ = false := by
  simp [World.frozen?, h]

section
variable {w : World} {S D : Nat} {pos most : Int} {lv tv gv : Value}
theorem ScanAt.c0 (h : ScanAt w S D pos most lv tv gv) : w.cell? ⟨S, 0, none⟩ = some (.slice (some ⟨D, 0, none⟩) 9 9) := cell_of_arr h 0
theorem ScanAt.c1 (h : ScanAt w S D pos most lv tv gv) : w.cell? ⟨S, 1, none⟩ = some (.int .i64 pos) := cell_of_arr h 1
theorem ScanAt.c2 (h : ScanAt w S D pos most lv tv gv) : w.cell? ⟨S, 2, none⟩ = some (.int .i64 most) := cell_of_arr h 2
theorem ScanAt.c3 (h : ScanAt w S D pos most lv tv gv) : w.cell? ⟨S, 3, none⟩ = some lv := cell_of_arr h 3
theorem ScanAt.c6 (h : ScanAt w S D pos most lv tv gv) : w.cell? ⟨S, 6, none⟩ = some tv := cell_of_arr h 6
theorem ScanAt.c7 (h : ScanAt w S D pos most lv tv gv) : w.cell? ⟨S, 7, none⟩ = some gv := cell_of_arr h 7
theorem ScanAt.fr (h : ScanAt w S D pos most lv tv gv) (i : Nat) : w.frozen? ⟨S, i, none⟩ = false := frozen_of_arr h i
end

theorem heap_setCell_arr {w : World} {g : Nat} {cur : Array Value} {t : TypeId} {m : Nat × Nat} (h : w.heap[g]? = some (.cells cur t m)) (i : Nat) (v : Value) :
    (w.setCell ⟨g, i, none⟩ v).heap[g]? = some (.cells (cur.setIfInBounds i v) t m) := by
  simp [World.setCell, Array.getElem?_modify, h]

section
variable {w : World} {S D : Nat} {pos most : Int} {lv tv gv : Value}
theorem ScanAt.set3 (h : ScanAt w S D pos most lv tv gv) (v : Value) : ScanAt (w.setCell ⟨S, 3, none⟩ v) S D pos most v tv gv := heap_setCell_arr h 3 v
theorem ScanAt.set6 (h : ScanAt w S D pos most lv tv gv) (v : Value) : ScanAt (w.setCell ⟨S, 6, none⟩ v) S D pos most lv v gv := heap_setCell_arr h 6 v
theorem ScanAt.set7 (h : ScanAt w S D pos most lv tv gv) (v : Value) : ScanAt (w.setCell ⟨S, 7, none⟩ v) S D pos most lv tv v := heap_setCell_arr h 7 v
theorem ScanAt.set1 (h : ScanAt w S D pos most lv tv gv) (n : Int) : ScanAt (w.setCell ⟨S, 1, none⟩ (.int .i64 n)) S D n most lv tv gv := heap_setCell_arr h 1 _
end
end Go.Proofs.Qxb6600513a
