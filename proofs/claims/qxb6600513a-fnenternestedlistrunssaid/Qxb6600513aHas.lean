/-
  (*writtenScan).has
-/
import Derived.Test.Qxb6600513aScan
import Derived.Test.Qxb6600513aPre
import Derived.Laws.IdiomStrings
import Derived.Deep.RegionWith
import Derived.Deep.DrawnRows
namespace Go.Proofs.Qxb6600513a
open Go.RowKit
set_option linter.unusedVariables false
attribute [local go_sem ↓] Go.wp_at_zero Go.wp_at_succ

theorem bytesRow_cell (W w : World) (cap : Nat) (hc : 2 ≤ cap) (m : Nat × Nat) (hW : W.heap = (w.alloc (.cells (bytesRow { data := #[45, 32] } cap) 5 m)).heap) : ∀ i, i < 2 → W.cell? ⟨w.heap.size, 0 + i, none⟩ = some (.int .u8 (([45, 32] : List Int).getD i 0)) := by
  intro i hi
  have hg : W.heap[w.heap.size]? = some (.cells (bytesRow { data := #[45, 32] } cap) 5 m) := by rw [hW]; exact heap_new _ _
  rw [cell_of_arr hg, bytesRow_at _ _ _ (by simp; omega)]
  match i, hi with
  | 0, _ => rfl
  | 1, _ => rfl

theorem data_cell {W w : World} {D : Nat} (hD : DataAt w D) (o : Obj) (hW : W.heap = (w.alloc o).heap) (off : Nat) : ∀ i, i < 9 - off → W.cell? ⟨D, off + i, none⟩ = some (.int .u8 ((dataNums.drop off).getD i 0)) := by
  intro i hi
  have hg : W.heap[D]? = some (.cells (dataNums.map (Value.int .u8)).toArray 5 (9, 10)) := by rw [hW, Below.heap_alloc _ _ _ (lt_of_block hD)]; exact hD
  have hlt : off + i < dataNums.length := by simp [dataNums]; omega
  rw [cell_of_arr hg, Lib.getD_drop]
  simp [List.getElem?_eq_getElem hlt]

theorem pre_at (D off k : Nat) (hk : 9 - off = k) (w : World) (hD : DataAt w D) (r : Bool) (hr : hp (dataNums.drop off) [45, 32] = r) : ∀ (W : World) (cap : Nat), 2 ≤ cap → (∃ m : Nat × Nat, W.heap = (w.alloc (.cells (bytesRow { data := #[45, 32] } cap) 5 m)).heap) →
    Calls Try.prog 46 #[.slice (some ⟨D, off, none⟩) k k, .slice (some ⟨w.heap.size, 0, none⟩) 2 cap] W fun e w' => e = .returned (.bool r) ∧ w' = W := by
  rintro W cap hc ⟨m, hW⟩
  subst hk; subst hr
  exact hasPrefix46 D off (9 - off) (9 - off) w.heap.size 0 2 cap (dataNums.drop off) [45, 32] W (by simp [dataNums]) rfl (Nat.le_refl _) (data_cell hD _ hW off) (bytesRow_cell W w cap hc m hW)
    (fun x hx => by have := List.mem_of_mem_drop hx; simp [dataNums] at this; omega) (by simp)

set_option maxHeartbeats 400000 in
theorem has41_item (S D : Nat) (most : Int) (lv tv gv : Value) (w : World) (hS : ScanAt w S D 0 most lv tv gv) (hD : DataAt w D) :
    Calls Try.prog 41 #[.pointer (some ⟨S, 0, none⟩), .string { data := #[45, 32] }] w fun e w' => e = .returned (.bool true) ∧ Kept no w w' := by
  have h0 := hS.c0
  have h1 := hS.c1
  have hne : S ≠ w.heap.size := Nat.ne_of_lt (lt_of_block hS)
  have h0a := fun o => (Below.heap_alloc w o S (lt_of_block hS))
  have g0 : ∀ o, (w.alloc o).cell? ⟨S, 0, none⟩ = some (.slice (some ⟨D, 0, none⟩) 9 9) := fun o => by rw [World.cell?_of_block (w := w) (h0a o)]; exact h0
  have g1 : ∀ o, (w.alloc o).cell? ⟨S, 1, none⟩ = some (.int .i64 0) := fun o => by rw [World.cell?_of_block (w := w) (h0a o)]; exact h1
  clear h0a
  have hcv := fun w => run_bytes_of_string (P := Try.prog) w 9 22 5 { data := #[45, 32] } Try.underlying9 Try.underlying22 Try.underlying5
  have H : Hid _ := pre_at D 0 9 rfl w hD true (by decide)
  have hge := fun w => grownCap_ge w 2 0 5
  go_enter Try.func41, Try.ntmps41
  go_wp2
  go_region_with (go_at_call 46; refine (H.out _ _ (hge _) ?_).mono ?_; exact ⟨_, rfl⟩; rintro e w' ⟨rfl, hw⟩; cases hw)
  all_goals
    go_wp2
    go_ret
    exact ⟨rfl, rfl, rfl, rfl, by simp, fun k hk _ => Below.heap_alloc _ _ _ hk⟩

set_option maxHeartbeats 400000 in
theorem has41_not (S D : Nat) (most : Int) (lv tv gv : Value) (w : World) (hS : ScanAt w S D 4 most lv tv gv) (hD : DataAt w D) :
    Calls Try.prog 41 #[.pointer (some ⟨S, 0, none⟩), .string { data := #[45, 32] }] w fun e w' => e = .returned (.bool false) ∧ Kept no w w' := by
  have h0 := hS.c0
  have h1 := hS.c1
  have hne : S ≠ w.heap.size := Nat.ne_of_lt (lt_of_block hS)
  have h0a := fun o => (Below.heap_alloc w o S (lt_of_block hS))
  have g0 : ∀ o, (w.alloc o).cell? ⟨S, 0, none⟩ = some (.slice (some ⟨D, 0, none⟩) 9 9) := fun o => by rw [World.cell?_of_block (w := w) (h0a o)]; exact h0
  have g1 : ∀ o, (w.alloc o).cell? ⟨S, 1, none⟩ = some (.int .i64 4) := fun o => by rw [World.cell?_of_block (w := w) (h0a o)]; exact h1
  clear h0a
  have hcv := fun w => run_bytes_of_string (P := Try.prog) w 9 22 5 { data := #[45, 32] } Try.underlying9 Try.underlying22 Try.underlying5
  have H : Hid _ := pre_at D 4 5 rfl w hD false (by decide)
  have hge := fun w => grownCap_ge w 2 0 5
  go_enter Try.func41, Try.ntmps41
  go_wp2
  go_region_with (go_at_call 46; refine (H.out _ _ (hge _) ?_).mono ?_; exact ⟨_, rfl⟩; rintro e w' ⟨rfl, hw⟩; cases hw)
  all_goals
    go_wp2
    go_ret
    exact ⟨rfl, rfl, rfl, rfl, by simp, fun k hk _ => Below.heap_alloc _ _ _ hk⟩

end Go.Proofs.Qxb6600513a
