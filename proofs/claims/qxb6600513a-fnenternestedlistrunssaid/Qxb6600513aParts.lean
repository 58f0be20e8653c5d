/-
  zzBytes_FnLineBreaksSplitAtLineFeed, zzBytes_FnLineBreaksClosedForm; slices carried on; one store into a row.
-/
import Derived.Test.Qxb6600513aBase
namespace Go.Proofs.Qxb6600513a
open Go.RowKit
set_option linter.unusedVariables false

theorem Sl.below {k : IntKind} {w w' : World} {a : Option Addr} {n c : Nat} {l : List Int} (h : Sl k w a n c l) (hb : Below w.heap.size w w') : Sl k w' a n c l := by
  refine ⟨h.len, h.le, h.max, h.nil, fun h0 => ?_, h.wf⟩
  obtain ⟨b, off, ha, hc⟩ := h.cells h0
  refine ⟨b, off, ha, fun i hi => ?_⟩
  have hcj := hc i hi
  have hlt : b < w.heap.size := by
    rcases Nat.lt_or_ge b w.heap.size with h' | h'
    · exact h'
    · simp [World.cell?, Array.getElem?_eq_none h'] at hcj
  rw [hb.cell (p := ⟨b, off + i, none⟩) hlt]; exact hcj

set_option maxHeartbeats 400000 in
theorem bytes12_yes (a0 a1 : Option Addr) (n0 c0 n1 c1 : Nat) (w : World) (h : n0 + n1 ≤ 1048576) :
    Calls Try.prog 12 #[.slice a0 n0 c0, .slice a1 n1 c1] w fun e w' => e = .returned (.bool true) ∧ w' = w := by
  have h0 : ¬ (1048576 : Int) < (n0 : Int) := by omega
  have h1 : ¬ (1048576 : Int) < (n1 : Int) := by omega
  have h2 : ¬ (1048576 : Int) < (n0 : Int) + (n1 : Int) := by omega
  go_enter Try.func12, Try.ntmps12
  go_wp2
  go_ret
  exact ⟨rfl, rfl⟩

set_option maxHeartbeats 400000 in
theorem bytes12_no (a0 a1 : Option Addr) (n0 c0 n1 c1 : Nat) (w : World) (h : ¬ n0 + n1 ≤ 1048576) :
    Calls Try.prog 12 #[.slice a0 n0 c0, .slice a1 n1 c1] w fun e w' => e = .returned (.bool false) ∧ w' = w := by
  by_cases h0 : n0 ≤ 1048576
  · by_cases h1 : n1 ≤ 1048576
    · have h2 : (1048576 : Int) < (n0 : Int) + (n1 : Int) := by omega
      go_enter Try.func12, Try.ntmps12
      go_wp2
      go_ret
      exact ⟨rfl, rfl⟩
    · go_enter Try.func12, Try.ntmps12
      go_wp2
      go_ret
      exact ⟨rfl, rfl⟩
  · go_enter Try.func12, Try.ntmps12
    go_wp2
    go_ret
    exact ⟨rfl, rfl⟩

set_option maxHeartbeats 400000 in
theorem bytes7_yes (a0 : Option Addr) (n0 c0 : Nat) (w : World) (h : n0 ≤ 1048576) :
    Calls Try.prog 7 #[.slice a0 n0 c0] w fun e w' => e = .returned (.bool true) ∧ w' = w := by
  go_enter Try.func7, Try.ntmps7
  go_wp2
  go_ret
  exact ⟨rfl, rfl⟩

set_option maxHeartbeats 400000 in
theorem bytes7_no (a0 : Option Addr) (n0 c0 : Nat) (w : World) (h : ¬ n0 ≤ 1048576) :
    Calls Try.prog 7 #[.slice a0 n0 c0] w fun e w' => e = .returned (.bool false) ∧ w' = w := by
  go_enter Try.func7, Try.ntmps7
  go_wp2
  go_ret
  exact ⟨rfl, rfl⟩

theorem heap_setCell_row {w : World} {g : Nat} {cur : List Value} {t : TypeId} {m : Nat × Nat} (h : w.heap[g]? = some (.cells cur.toArray t m)) (i : Nat) (v : Value) :
    (w.setCell ⟨g, i, none⟩ v).heap[g]? = some (.cells (cur.set i v).toArray t m) := by
  simp [World.setCell, Array.getElem?_modify, h]

theorem cell_of_row {w : World} {g : Nat} {cur : List Value} {t : TypeId} {m : Nat × Nat} (h : w.heap[g]? = some (.cells cur.toArray t m)) (i : Nat) :
    w.cell? ⟨g, i, none⟩ = cur[i]? := by
  rw [World.cell?, h]; simp

theorem frozen_of_row {w : World} {g : Nat} {cur : List Value} {t : TypeId} (h : w.heap[g]? = some (.cells cur.toArray t (0, 0))) (i : Nat) :
    w.frozen? ⟨g, i, none⟩ = false := by
  simp [World.frozen?, h]

end Go.Proofs.Qxb6600513a
