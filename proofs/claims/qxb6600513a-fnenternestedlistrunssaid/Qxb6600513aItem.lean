/-
  (*writtenScan).item
-/
import Derived.Test.Qxb6600513aLevel
namespace Go.Proofs.Qxb6600513a
open Go.RowKit
set_option linter.unusedVariables false
set_option linter.unusedSimpArgs false

section
variable {w : World} {G : Nat} {ind anchor run earlier : Int} {rpi : Bool} {rv : Value}
theorem ListAt.c0 (h : ListAt w G ind rpi anchor rv run earlier) : w.cell? ⟨G, 0, none⟩ = some (.int .i64 ind) := cell_of_arr h 0
theorem ListAt.c1 (h : ListAt w G ind rpi anchor rv run earlier) : w.cell? ⟨G, 1, none⟩ = some (.bool rpi) := cell_of_arr h 1
theorem ListAt.c2 (h : ListAt w G ind rpi anchor rv run earlier) : w.cell? ⟨G, 2, none⟩ = some (.bool false) := cell_of_arr h 2
theorem ListAt.c3 (h : ListAt w G ind rpi anchor rv run earlier) : w.cell? ⟨G, 3, none⟩ = some (.int .i64 anchor) := cell_of_arr h 3
theorem ListAt.c4 (h : ListAt w G ind rpi anchor rv run earlier) : w.cell? ⟨G, 4, none⟩ = some rv := cell_of_arr h 4
theorem ListAt.c5 (h : ListAt w G ind rpi anchor rv run earlier) : w.cell? ⟨G, 5, none⟩ = some (.int .i64 run) := cell_of_arr h 5
theorem ListAt.c6 (h : ListAt w G ind rpi anchor rv run earlier) : w.cell? ⟨G, 6, none⟩ = some (.int .i64 earlier) := cell_of_arr h 6
theorem ListAt.fr (h : ListAt w G ind rpi anchor rv run earlier) (i : Nat) : w.frozen? ⟨G, i, none⟩ = false := frozen_of_arr h i
end

theorem owns_ne {w : World} {base : Nat} {e t : TypeId} {size : Nat} {v : Value} {n : Nat} {xs : List Value} (ho : w.ownsRow base e size v n xs) {G : Nat} {cs : Array Value} {m : Nat × Nat} (hG : w.heap[G]? = some (.cells cs t m)) (hne : e ≠ t) : v.ownBlock ≠ some G := by
  intro he
  rcases ho.2 with ⟨rfl, _⟩ | ⟨g, cap, cur, rfl, hb, hg, rest⟩
  · simp [Value.ownBlock] at he
  · simp [Value.ownBlock] at he
    subst he
    rw [hG] at hg
    simp at hg
    exact hne hg.2.1.symm

theorem cells_new (w : World) (cs : Array Value) (t : TypeId) : ∀ j u, cs.toList[j]? = some u → (w.alloc (.cells cs t)).cell? ((⟨w.heap.size, 0, none⟩ : Addr).add j) = some u := World.news_of_block (heap_new _ _)

theorem owns_set3 {w : World} {base : Nat} {e : TypeId} {size : Nat} {v : Value} {n : Nat} {xs : List Value} (ho : w.ownsRow base e size v n xs) {G : Nat} (hG : v.ownBlock ≠ some G) (a b c : Value) :
    (((w.setCell ⟨G, 4, none⟩ a).setCell ⟨G, 6, none⟩ b).setCell ⟨G, 5, none⟩ c).ownsRow base e size v n xs :=
  ownsRow_setCell_other (ownsRow_setCell_other (ownsRow_setCell_other ho (a := ⟨G, 4, none⟩) hG a) (a := ⟨G, 6, none⟩) hG b) (a := ⟨G, 5, none⟩) hG c

set_option maxHeartbeats 400000 in
theorem item45_app (S G : Nat) (most ind anchor start : Int) (rpi : Bool) (rv : Value) (B m : Nat) (rs : List Value) (w : World) (hS2 : w.cell? ⟨S, 2, none⟩ = some (.int .i64 most)) (hL : ListAt w G ind rpi anchor rv 0 0)
    (hrv : w.ownsRow B 3 1 rv m rs) (hB : B ≤ w.heap.size) (hm : m ≤ 1048576) (hc : rpi = true ∨ most ≤ 0) :
    Calls Try.prog 45 #[.pointer (some ⟨S, 0, none⟩), .pointer (some ⟨G, 0, none⟩), .int .i64 start] w fun e w' => e = .returned (.tuple #[]) ∧
      ∃ g cap, ListAt w' G ind rpi anchor (.slice (some ⟨g, 0, none⟩) (m + 1) cap) 0 0 ∧ w'.ownsRow B 3 1 (.slice (some ⟨g, 0, none⟩) (m + 1) cap) (m + 1) (rs ++ [.int .i64 start]) ∧ (rv.ownBlock = some g ∨ w.heap.size ≤ g) ∧ Kept (fun k => k = G ∨ rv.ownBlock = some k) w w' := by
  obtain ⟨i0, hi, hz0, hz1, hz2⟩ := info_parts Try.info3
  have c1 := hL.c1
  have c4 := hL.c4
  have c5 := hL.c5
  have hne := owns_ne hrv hL (by decide)
  have hGlt := lt_of_block hL
  have K0 : Hid (∀ W w1 : World, W.heap = (w.alloc (.cells #[.int .i64 start] 3)).heap → W.grownBy w1 rv.ownBlock → ListAt w1 G ind rpi anchor rv 0 0) := fun W w1 hW hg => by
    show _ = _
    rw [hg.block G (by rw [hW]; simp; omega) (fun e => hne e.symm), hW, Below.heap_alloc _ _ _ hGlt]; exact hL
  have HL : Hid (ListAt w G ind rpi anchor rv 0 0) := hL
  clear hL
  cases rpi with
  | true =>
    go_enter Try.func45, Try.ntmps45
    go_wp2
    go_quiet (fail)
    go_wp2_with (at_builtin; refine wpList_append_lies _ (by rfl) _ _ 29 (by rfl) B 3 i0 (.int .i64 0) 1 8 Try.underlying29 hi hz0 hz1 hz2 rfl (by omega) rv m rs (by rfl) (by exact hrv.alloc _) ⟨w.heap.size, 0, none⟩ 1 1 [.int .i64 start] (by rfl) (by rfl) (by exact cells_new _ _ _) (by simp [Value.oneCell']) (by omega) (by unfold maxLen; omega) (by omega) (by simp; omega) (w.heap.size + 1) (by simp) ?_; intro g cap w1 hown1 hgrow hat hlt; have hL1 := K0.out _ w1 (by rfl) hgrow; have k4 := hL1.c4; have k5 := hL1.c5; have k6 := hL1.c6; have kf := hL1.fr)
    go_region
    all_goals go_wp2
    all_goals
      go_end0
      refine ⟨rfl, g, cap, ?_, ?_, hat.elim .inl (fun h => .inr (by omega)), ?_⟩
      · exact heap_setCell_arr (heap_setCell_arr (heap_setCell_arr hL1 4 _) 6 _) 5 _
      · exact owns_set3 hown1 (owns_ne hown1 hL1 (by decide)) (.slice (some ⟨g, 0, none⟩) (m + 1) cap) (.int .i64 0) (.int .i64 0)
      · have q1 : Kept (fun k => k = G ∨ rv.ownBlock = some k) w w1 := by
          refine Kept.grown (w := (w.alloc (.cells #[.int .i64 start] 3))) ((Kept.refl _ w).alloc _) ⟨hgrow.os, hgrow.tape, hgrow.output, hgrow.size, hgrow.block⟩ fun k hk => .inl (.inr hk)
        have q2 := ((q1.setCell (q := ⟨G, 4, none⟩) (.inl (.inl rfl)) (.slice (some ⟨g, 0, none⟩) (m + 1) cap)).setCell (q := ⟨G, 6, none⟩) (.inl (.inl rfl)) (.int .i64 0)).setCell (q := ⟨G, 5, none⟩) (.inl (.inl rfl)) (.int .i64 0)
        first | exact q2 | exact q2.drew | exact q2.drewN _
  | false =>
    have hmost : most ≤ 0 := hc.elim (fun h => by cases h) id
    have hd : decide ((0 : Int) < most) = false := by simpa using hmost
    clear hc
    go_enter Try.func45, Try.ntmps45
    go_wp2
    go_quiet (fail)
    go_wp2_with (at_builtin; refine wpList_append_lies _ (by rfl) _ _ 29 (by rfl) B 3 i0 (.int .i64 0) 1 8 Try.underlying29 hi hz0 hz1 hz2 rfl (by omega) rv m rs (by rfl) (by exact hrv.alloc _) ⟨w.heap.size, 0, none⟩ 1 1 [.int .i64 start] (by rfl) (by rfl) (by exact cells_new _ _ _) (by simp [Value.oneCell']) (by omega) (by unfold maxLen; omega) (by omega) (by simp; omega) (w.heap.size + 1) (by simp) ?_; intro g cap w1 hown1 hgrow hat hlt; have hL1 := K0.out _ w1 (by rfl) hgrow; have k4 := hL1.c4; have k5 := hL1.c5; have k6 := hL1.c6; have kf := hL1.fr)
    go_region
    all_goals go_wp2
    all_goals
      go_end0
      refine ⟨rfl, g, cap, ?_, ?_, hat.elim .inl (fun h => .inr (by omega)), ?_⟩
      · exact heap_setCell_arr (heap_setCell_arr (heap_setCell_arr hL1 4 _) 6 _) 5 _
      · exact owns_set3 hown1 (owns_ne hown1 hL1 (by decide)) (.slice (some ⟨g, 0, none⟩) (m + 1) cap) (.int .i64 0) (.int .i64 0)
      · have q1 : Kept (fun k => k = G ∨ rv.ownBlock = some k) w w1 := by
          refine Kept.grown (w := (w.alloc (.cells #[.int .i64 start] 3))) ((Kept.refl _ w).alloc _) ⟨hgrow.os, hgrow.tape, hgrow.output, hgrow.size, hgrow.block⟩ fun k hk => .inl (.inr hk)
        have q2 := ((q1.setCell (q := ⟨G, 4, none⟩) (.inl (.inl rfl)) (.slice (some ⟨g, 0, none⟩) (m + 1) cap)).setCell (q := ⟨G, 6, none⟩) (.inl (.inl rfl)) (.int .i64 0)).setCell (q := ⟨G, 5, none⟩) (.inl (.inl rfl)) (.int .i64 0)
        first | exact q2 | exact q2.drew | exact q2.drewN _

set_option maxHeartbeats 400000 in
theorem item45_stay (S G : Nat) (most ind anchor start : Int) (rv : Value) (w : World) (hS2 : w.cell? ⟨S, 2, none⟩ = some (.int .i64 most)) (hL : ListAt w G ind false anchor rv 0 0) (hm : 0 < most) :
    Calls Try.prog 45 #[.pointer (some ⟨S, 0, none⟩), .pointer (some ⟨G, 0, none⟩), .int .i64 start] w fun e w' => e = .returned (.tuple #[]) ∧ Kept no w w' := by
  have c1 := hL.c1
  have c5 := hL.c5
  clear hL
  go_enter Try.func45, Try.ntmps45
  go_wp2
  go_quiet (fail)
  go_wp2
  refine bodyPost_ret (results_none rfl _ _ _) rfl ?_
  exact ⟨rfl, (Kept.refl _ _).drewN _⟩

end Go.Proofs.Qxb6600513a
