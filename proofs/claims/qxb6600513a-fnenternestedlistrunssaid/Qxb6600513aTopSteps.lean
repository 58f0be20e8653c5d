/-
  The steps of FnEnterTopListSetsTargets, said of the scan's state.
-/
import Derived.Test.Qxb6600513aPush
namespace Go.Proofs.Qxb6600513a
open Go.RowKit
set_option linter.unusedVariables false
set_option linter.unusedSimpArgs false

theorem owns_base {w : World} {b b' : Nat} {e : TypeId} {size : Nat} {v : Value} {n : Nat} {xs : List Value} (h : w.ownsRow b e size v n xs) (hb : b' ≤ b) : w.ownsRow b' e size v n xs := by
  refine ⟨h.1, ?_⟩
  rcases h.2 with h2 | ⟨g, cap, cur, hv, hg, rest⟩
  · exact .inl h2
  · exact .inr ⟨g, cap, cur, hv, Nat.le_trans hb hg, rest⟩

theorem owns_ge {w : World} {b : Nat} {e : TypeId} {size : Nat} {v : Value} {n : Nat} {xs : List Value} (h : w.ownsRow b e size v n xs) {k : Nat} (hk : v.ownBlock = some k) : b ≤ k := (h.lt k hk).1

def Far (S B : Nat) : Nat → Prop := fun k => k = S ∨ B ≤ k

/-- The scan's levels: the key alone, its list not yet begun. -/
def Open0 (wr : World) (S D B : Nat) (pos most colon : Int) (tv : Value) : Prop := ∃ g cap, ScanAt wr S D pos most (.slice (some ⟨g, 0, none⟩) 1 cap) tv (.slice none 0 0) ∧ wr.ownsRow B 52 4 (.slice (some ⟨g, 0, none⟩) 1 cap) 1 (lev 0 true colon none)

/-- The key and an item of its list, whose runs are l. -/
def Open1 (wr : World) (S D B : Nat) (pos most indent colon : Int) (tv : Value) (k : Nat) (l : List Value) : Prop := ∃ g cap G r rc, ScanAt wr S D pos most (.slice (some ⟨g, 0, none⟩) 2 cap) tv (.slice none 0 0) ∧
  wr.ownsRow B 52 4 (.slice (some ⟨g, 0, none⟩) 2 cap) 2 (lev 0 true colon (some G) ++ lev indent false 0 none) ∧ ListAt wr G indent true colon (.slice (some ⟨r, 0, none⟩) k rc) 0 0 ∧ B ≤ G ∧ wr.ownsRow B 3 1 (.slice (some ⟨r, 0, none⟩) k rc) k l

theorem step0 (S D B : Nat) (most indent colon start : Int) (tv : Value) (w : World) (h : Open0 w S D B 0 most colon tv) (hD : DataAt w D) (hB : B ≤ w.heap.size) (hind : 0 ≤ indent) :
    Calls Try.prog 18 #[.pointer (some ⟨S, 0, none⟩), .int .i64 start, .int .i64 indent] w fun e w' => e = .returned (.int .i64 (-1)) ∧ Open1 w' S D B 0 most indent colon tv 1 [.int .i64 start] ∧ Kept (Far S B) w w' := by
  obtain ⟨g, cap, hS, hlv⟩ := h
  refine enter18 S start indent w _ ?_
  refine (enterA0 S D B most indent colon start _ tv _ w hS hD hlv hB hind).mono ?_
  rintro e w' ⟨rfl, g', cap', G, r, hS', hlv', hL', hG, hr, hat, hrv, hk⟩
  exact ⟨rfl, ⟨g', cap', G, r, 1, hS', hlv', hL', Nat.le_trans hB hG, owns_base hrv hB⟩, hk.mono fun k _ h => h.elim .inl (fun e => .inr (owns_ge hlv e))⟩

theorem step1 (S D B k : Nat) (most indent colon start : Int) (tv : Value) (l : List Value) (w : World) (h : Open1 w S D B 0 most indent colon tv k l) (hD : DataAt w D) (hB : B ≤ w.heap.size) (hk0 : k ≤ 1048576) :
    Calls Try.prog 18 #[.pointer (some ⟨S, 0, none⟩), .int .i64 start, .int .i64 indent] w fun e w' => e = .returned (.int .i64 (-1)) ∧ Open1 w' S D B 0 most indent colon tv (k + 1) (l ++ [.int .i64 start]) ∧ Kept (Far S B) w w' := by
  obtain ⟨g, cap, G, r, rc, hS, hlv, hL, hG, hrv⟩ := h
  refine enter18 S start indent w _ ?_
  refine (enterB0 S D G B B k most indent colon colon start _ tv _ _ l w hS hD hlv hB hL hrv hB hk0).mono ?_
  rintro e w' ⟨rfl, g', cap', hS', hlv', hat, ⟨r', rc', hL', hrv', hat'⟩, hk⟩
  refine ⟨rfl, ⟨g', cap', G, r', rc', hS', hlv', hL', hG, hrv'⟩, hk.mono fun k _ h => ?_⟩
  rcases h with h | h | h | h
  · exact .inl h
  · exact .inr (owns_ge hlv h)
  · exact .inr (by omega)
  · exact .inr (owns_ge hrv h)

theorem stepC (S D B k : Nat) (most indent ci colon start : Int) (ta : Option Addr) (tn tc : Nat) (ht : ta = none → tn = 0 ∧ tc = 0) (l : List Value) (w : World) (h : Open1 w S D B 4 most indent colon (.slice ta tn tc) k l) (hD : DataAt w D) (hB : B ≤ w.heap.size) (hci : ci ≤ indent) :
    Calls Try.prog 18 #[.pointer (some ⟨S, 0, none⟩), .int .i64 start, .int .i64 ci] w fun e w' => e = .returned (.int .i64 (-1)) ∧ (∃ g cap ta' tn' tc', ScanAt w' S D 4 most (.slice (some ⟨g, 0, none⟩) 0 cap) (.slice ta' tn' tc') (.slice none 0 0) ∧
      ((ta ≠ none ∧ ta' = ta ∧ tn' = tn ∧ tc' = tc) ∨ (ta = none ∧ ∃ r, ta' = some ⟨r, 0, none⟩ ∧ tn' = k ∧ w'.ownsRow B 3 1 (.slice ta' tn' tc') k l))) ∧ Kept (fun k => k = S) w w' := by
  obtain ⟨g, cap, G, r, rc, hS, hlv, hL, hG, hrv⟩ := h
  refine enter18 S start ci w (fun w' => (∃ g cap ta' tn' tc', ScanAt w' S D 4 most (.slice (some ⟨g, 0, none⟩) 0 cap) (.slice ta' tn' tc') (.slice none 0 0) ∧
      ((ta ≠ none ∧ ta' = ta ∧ tn' = tn ∧ tc' = tc) ∨ (ta = none ∧ ∃ r, ta' = some ⟨r, 0, none⟩ ∧ tn' = k ∧ w'.ownsRow B 3 1 (.slice ta' tn' tc') k l))) ∧ Kept (fun k => k = S) w w') ?_
  refine (enterC0 S D G B most indent ci colon colon start _ _ ta (some ⟨r, 0, none⟩) tn tc k rc w ht hS hD hlv hL hci _ rfl).mono ?_
  rintro e w' ⟨rfl, g', cap', hS', hk⟩
  refine ⟨rfl, ?_, hk⟩
  by_cases hta : ta = none
  · rw [if_pos hta] at hS'
    refine ⟨g', cap', _, _, _, hS', .inr ⟨hta, r, rfl, rfl, hk.owns hrv fun k hk' e => ?_⟩⟩
    exact owns_ne_scan hrv hS (by decide) (by rw [hk', e])
  · rw [if_neg hta] at hS'
    exact ⟨g', cap', _, _, _, hS', .inl ⟨hta, rfl, rfl, rfl⟩⟩

theorem stepD_pop (S D B : Nat) (most colon start : Int) (tv : Value) (w : World) (h : Open0 w S D B 4 most colon tv) (hD : DataAt w D) :
    Calls Try.prog 18 #[.pointer (some ⟨S, 0, none⟩), .int .i64 start, .int .i64 0] w fun e w' => e = .returned (.int .i64 (-1)) ∧ (∃ g cap, ScanAt w' S D 4 most (.slice (some ⟨g, 0, none⟩) 0 cap) tv (.slice none 0 0)) ∧ Kept (fun k => k = S) w w' := by
  obtain ⟨g, cap, hS, hlv⟩ := h
  refine enter18 S start 0 w _ ?_
  refine (enterD0_pop S D B most colon start _ tv _ w hS hD hlv).mono ?_
  rintro e w' ⟨rfl, g', cap', hS', hk⟩
  exact ⟨rfl, ⟨g', cap', hS'⟩, hk⟩

theorem stepD_stay (S D B : Nat) (most ci colon start : Int) (tv : Value) (w : World) (h : Open0 w S D B 4 most colon tv) (hD : DataAt w D) (hci : 0 < ci) :
    Calls Try.prog 18 #[.pointer (some ⟨S, 0, none⟩), .int .i64 start, .int .i64 ci] w fun e w' => e = .returned (.int .i64 (-1)) ∧ (∃ g cap, ScanAt w' S D 4 most (.slice (some ⟨g, 0, none⟩) 1 cap) tv (.slice none 0 0)) ∧ Kept no w w' := by
  obtain ⟨g, cap, hS, hlv⟩ := h
  refine enter18 S start ci w _ ?_
  refine (enterD0_stay S D B most ci colon start _ tv _ w hS hD hlv hci).mono ?_
  rintro e w' ⟨rfl, hk⟩
  exact ⟨rfl, ⟨g, cap, hS.kept hk (fun h => h)⟩, hk⟩

theorem Open1.keptNo {w w' : World} {S D B k : Nat} {pos most indent colon : Int} {tv : Value} {l : List Value} (h : Open1 w S D B pos most indent colon tv k l) (hk : Kept no w w') : Open1 w' S D B pos most indent colon tv k l := by
  obtain ⟨g, cap, G, r, rc, hS, hlv, hL, hG, hrv⟩ := h
  exact ⟨g, cap, G, r, rc, hS.kept hk (fun h => h), hk.owns hlv (fun _ _ h => h), hL.kept hk (fun h => h), hG, hk.owns hrv (fun _ _ h => h)⟩

theorem stepPos1 (S D B k : Nat) (pos most indent colon new : Int) (tv : Value) (l : List Value) (w : World) (h : Open1 w S D B pos most indent colon tv k l) :
    Calls Try.prog 28 #[.pointer (some ⟨S, 0, none⟩), .int .i64 new] w fun e w' => e = .returned (.tuple #[]) ∧ Open1 w' S D B new most indent colon tv k l ∧ Kept (fun k => k = S) w w' := by
  obtain ⟨g, cap, G, r, rc, hS, hlv, hL, hG, hrv⟩ := h
  refine (setPos28 S D pos most new _ _ _ w hS).mono ?_
  rintro e w' ⟨rfl, hS', hk⟩
  refine ⟨rfl, ⟨g, cap, G, r, rc, hS', hk.owns hlv (fun k hk e => owns_ne_scan hlv hS (by decide) (by rw [hk, e])), hL.kept hk (fun e => ?_), hG, hk.owns hrv (fun k hk e => owns_ne_scan hrv hS (by decide) (by rw [hk, e]))⟩, hk⟩
  have h1 := hL
  have h2 := hS
  unfold ListAt at h1
  unfold ScanAt at h2
  rw [e, h2] at h1
  simp at h1

theorem stepPos0 (S D B : Nat) (pos most colon new : Int) (tv : Value) (w : World) (h : Open0 w S D B pos most colon tv) :
    Calls Try.prog 28 #[.pointer (some ⟨S, 0, none⟩), .int .i64 new] w fun e w' => e = .returned (.tuple #[]) ∧ Open0 w' S D B new most colon tv ∧ Kept (fun k => k = S) w w' := by
  obtain ⟨g, cap, hS, hlv⟩ := h
  refine (setPos28 S D pos most new _ _ _ w hS).mono ?_
  rintro e w' ⟨rfl, hS', hk⟩
  exact ⟨rfl, ⟨g, cap, hS', hk.owns hlv (fun k hk e => owns_ne_scan hlv hS (by decide) (by rw [hk, e]))⟩, hk⟩

/-- Cloning, once more: where the copy lies. -/
theorem clone14x (a : Option Addr) (n c : Nat) (l : List Int) (w : World) (hn : n ≤ 1048576) (h : Sl .i64 w a n c l) :
    Calls Try.prog 14 #[.slice a n c] w fun e w' => ∃ a' c', e = .returned (.slice a' n c') ∧ Kept no w w' ∧ Sl .i64 w' a' n c' l ∧ (a' = none ↔ a = none) ∧ (∀ x, a' = some x → x.block = w.heap.size ∧ w.heap.size < w'.heap.size) := by
  cases a with
  | none =>
    obtain ⟨rfl, rfl⟩ := h.nil rfl
    refine (clone14_nil w).mono ?_
    rintro e w' ⟨rfl, rfl⟩
    exact ⟨none, 0, rfl, Kept.refl _ _, h, Iff.rfl, fun x hx => by simp at hx⟩
  | some x =>
    refine (clone14_some x n c l w hn h).mono ?_
    rintro e w' ⟨rfl, hb, hg⟩
    exact ⟨_, n, rfl, ⟨hb.os, hb.tape, hb.output, hb.size, fun k hk _ => hb.block k hk⟩, Sl.of_block h hn hg, by simp, fun x hx => by simp at hx; subst hx; exact ⟨rfl, lt_of_block hg⟩⟩

theorem newScan15x (D : Nat) (most : Int) (w : World) :
    Calls Try.prog 15 #[.slice (some ⟨D, 0, none⟩) 9 9, .int .i64 0, .int .i64 most] w fun e w' => ∃ S, e = .returned (.pointer (some ⟨S, 0, none⟩)) ∧ S = w.heap.size ∧ ScanAt w' S D 0 most (.slice none 0 0) (.slice none 0 0) (.slice none 0 0) ∧ Kept no w w' ∧ w'.heap.size = w.heap.size + 1 := by
  refine (newScan15 D most w).mono ?_
  rintro e w' ⟨rfl, h1, h2, h3⟩
  exact ⟨_, rfl, rfl, h1, h2, h3⟩
end Go.Proofs.Qxb6600513a
