/-
  policy.breakAt, policy.lineBreaks.
-/
import Derived.Test.Qxb6600513aPre
namespace Go.Proofs.Qxb6600513a
open Go.RowKit
set_option linter.unusedVariables false

/-- A constant's row, laid as a new block: its cells. -/
theorem const_cells (w : World) (ys : List Int) (m : Nat × Nat) (t : TypeId) : ∀ i, i < ys.length → (w.alloc (.cells (ys.map (Value.int .u8)).toArray t m)).cell? ⟨w.heap.size, 0 + i, none⟩ = some (.int .u8 (ys.getD i 0)) := by
  intro i hi
  rw [World.cell?, heap_new]
  simp [List.getElem?_eq_getElem hi]

theorem old_cells {w : World} {b off n : Nat} {xs : List Int} (h : ∀ i, i < n → w.cell? ⟨b, off + i, none⟩ = some (.int .u8 (xs.getD i 0))) (o : Obj) : ∀ i, i < n → (w.alloc o).cell? ⟨b, off + i, none⟩ = some (.int .u8 (xs.getD i 0)) :=
  fun i hi => Lib.cell?_alloc_marked o (h i hi)

set_option maxHeartbeats 400000 in
theorem breakAt40 (b off n c i : Nat) (l : List Int) (w : World) (hl : l.length = n) (hn : n ≤ 1048577) (hnc : n ≤ c) (hc : c ≤ maxLen) (hi : i < n)
    (hcell : ∀ i, i < n → w.cell? ⟨b, off + i, none⟩ = some (.int .u8 (l.getD i 0))) (wx : ∀ x ∈ l, 0 ≤ x ∧ x ≤ 255) :
    Calls Try.prog 40 #[.slice (some ⟨b, off, none⟩) n c, .int .i64 i] w fun e w' => e = .returned (.int .i64 (brk (l.drop i))) ∧ Below w.heap.size w w' := by
  unfold maxLen at hc
  have kc := fun (w : World) (C : Array Value) (n c : Nat) => Lib.run_convert_bytes_const (P := Try.prog) w 22 5 C n c Try.underlying22 Try.underlying5
  obtain ⟨r, hr⟩ : ∃ r, r = l.drop i := ⟨_, rfl⟩
  have hrl : r.length = n - i := by rw [hr]; simp; omega
  have wr : ∀ x ∈ r, 0 ≤ x ∧ x ≤ 255 := fun x hx => wx x (by rw [hr] at hx; exact List.mem_of_mem_drop hx)
  have hrc : ∀ j, j < n - i → w.cell? ⟨b, off + i + j, none⟩ = some (.int .u8 (r.getD j 0)) := fun j hj => by
    rw [Nat.add_assoc, hcell (i + j) (by omega), hr, Lib.getD_drop]
  rw [← hr]
  clear hr hcell wx hl l
  have H : Hid (∀ (w1 : World) (C : Array Value) (ys : List Int) (m d m2 : Nat), Below w.heap.size w w1 → C = (ys.map (Value.int .u8)).toArray → ys.length = m → (∀ x ∈ ys, 0 ≤ x ∧ x ≤ 255) →
      Calls Try.prog 46 #[.slice (some ⟨b, off + i, none⟩) (n - i) (c - i), .slice (some ⟨w1.heap.size, 0, none⟩) m d] (w1.alloc (.cells C 5 (m, m2))) fun e w' => e = .returned (.bool (hp r ys)) ∧ Hid (Below w.heap.size w w')) := by
    intro w1 C ys m d m2 hb hC hm hy
    subst hC
    have hlt : b < w.heap.size := by
      have := hrc 0 (by omega)
      rcases Nat.lt_or_ge b w.heap.size with h' | h'
      · exact h'
      · simp [World.cell?, Array.getElem?_eq_none h'] at this
    refine (hasPrefix46 b (off + i) (n - i) (c - i) w1.heap.size 0 m d r ys _ hrl hm (by omega) (old_cells (fun j hj => ?_) _) (fun j hj => const_cells w1 ys _ 5 j (by omega)) wr hy).mono ?_
    · rw [hb.cell (p := ⟨b, off + i + j, none⟩) hlt]; exact hrc j hj
    · rintro e w' ⟨rfl, rfl⟩
      exact ⟨rfl, hb.alloc hb.size _⟩
  clear hrc wr
  have B0 : Hid (Below w.heap.size w w) := Below.refl _ _
  go_enter Try.func40, Try.ntmps40
  go_wp2_with fail
  refine (H.out _ _ [10] 1 1 2 B0.out rfl rfl (by decide)).mono ?_
  rintro e w1 ⟨rfl, B1⟩
  cases h1 : hp r [10]
  case true =>
    go_wp2
    go_ret
    exact ⟨by simp [brk, *], B1.out⟩
  go_wp2_with fail
  refine (H.out _ _ [13] 1 1 2 B1.out rfl rfl (by decide)).mono ?_
  rintro e w2 ⟨rfl, B2⟩
  cases h2 : hp r [13]
  case true =>
    go_wp2
    go_ret
    exact ⟨by simp [brk, *], B2.out⟩
  go_wp2_with fail
  refine (H.out _ _ [194, 133] 2 2 3 B2.out rfl rfl (by decide)).mono ?_
  rintro e w3 ⟨rfl, B3⟩
  cases h3 : hp r [194, 133]
  case true =>
    go_wp2
    go_ret
    exact ⟨by simp [brk, *], B3.out⟩
  go_wp2_with fail
  refine (H.out _ _ [226, 128, 168] 3 3 4 B3.out rfl rfl (by decide)).mono ?_
  rintro e w4 ⟨rfl, B4⟩
  cases h4 : hp r [226, 128, 168]
  case true =>
    go_wp2
    go_ret
    exact ⟨by simp [brk, *], B4.out⟩
  go_wp2_with fail
  refine (H.out _ _ [226, 128, 169] 3 3 4 B4.out rfl rfl (by decide)).mono ?_
  rintro e w5 ⟨rfl, B5⟩
  cases h5 : hp r [226, 128, 169]
  case true =>
    go_wp2
    go_ret
    exact ⟨by simp [brk, *], B5.out⟩
  go_wp2
  go_ret
  exact ⟨by simp [brk, *], B5.out⟩

end Go.Proofs.Qxb6600513a
