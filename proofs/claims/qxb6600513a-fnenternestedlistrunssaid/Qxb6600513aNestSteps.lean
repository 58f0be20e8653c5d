/-
  The steps of FnEnterNestedListRuns, said of the scan's state.
-/
import Derived.Test.Qxb6600513aEnterC2
import Derived.Test.Qxb6600513aTopSteps
namespace Go.Proofs.Qxb6600513a
open Go.RowKit
set_option linter.unusedVariables false
set_option linter.unusedSimpArgs false

/-- The targets' own list: one item, at place 0. -/
def Out (w : World) (B G0 r0 rc0 : Nat) : Prop := ListAt w G0 2 true 0 (.slice (some ⟨r0, 0, none⟩) 1 rc0) 0 0 ∧ w.ownsRow B 3 1 (.slice (some ⟨r0, 0, none⟩) 1 rc0) 1 [.int .i64 0]

theorem Out.kept {w w' : World} {B G0 r0 rc0 : Nat} {p : Nat → Prop} (h : Out w B G0 r0 rc0) (hk : Kept p w w') (h1 : ¬ p G0) (h2 : ¬ p r0) : Out w' B G0 r0 rc0 :=
  ⟨h.1.kept hk h1, hk.owns h.2 (fun k e hp => by simp [Value.ownBlock] at e; subst e; exact h2 hp)⟩

/-- The nested key, its list not yet begun. -/
def N0 (w : World) (S D B B2 G0 r0 rc0 : Nat) (pos most colon : Int) : Prop := ∃ g cap, ScanAt w S D pos most (.slice (some ⟨g, 0, none⟩) 3 cap) (.slice none 0 0) (.slice none 0 0) ∧
  w.ownsRow B 52 4 (.slice (some ⟨g, 0, none⟩) 3 cap) 3 (lev 0 true 0 (some G0) ++ lev 2 false 0 none ++ lev 4 true colon none) ∧ Out w B G0 r0 rc0

/-- The nested key and an item of its list, whose runs are l. -/
def N1 (w : World) (S D B B2 G0 r0 rc0 : Nat) (pos most d colon : Int) (k : Nat) (l : List Value) : Prop := ∃ g cap G r rc, ScanAt w S D pos most (.slice (some ⟨g, 0, none⟩) 4 cap) (.slice none 0 0) (.slice none 0 0) ∧
  w.ownsRow B 52 4 (.slice (some ⟨g, 0, none⟩) 4 cap) 4 (lev 0 true 0 (some G0) ++ lev 2 false 0 none ++ lev 4 true colon (some G) ++ lev d false 0 none) ∧ ListAt w G d false colon (.slice (some ⟨r, 0, none⟩) k rc) 0 0 ∧ B2 ≤ G ∧ w.ownsRow B2 3 1 (.slice (some ⟨r, 0, none⟩) k rc) k l ∧ Out w B G0 r0 rc0

theorem nstep0 (S D B B2 G0 r0 rc0 : Nat) (most d colon start : Int) (w : World) (h : N0 w S D B B2 G0 r0 rc0 0 most colon) (hD : DataAt w D) (hB : B ≤ B2) (hB2 : B2 ≤ w.heap.size) (hd : 4 ≤ d) :
    Calls Try.prog 18 #[.pointer (some ⟨S, 0, none⟩), .int .i64 start, .int .i64 d] w fun e w' => e = .returned (.int .i64 (-1)) ∧ N1 w' S D B B2 G0 r0 rc0 0 most d colon 1 [.int .i64 start] ∧ Kept (Far S B) w w' := by
  obtain ⟨g, cap, hS, hlv, hO⟩ := h
  refine enter18 S start d w _ ?_
  refine (enterA2 S D B G0 most d colon start _ _ _ w hS hD hlv (by omega) hd).mono ?_
  rintro e w' ⟨rfl, g', cap', G, r, hS', hlv', hL', hG, hr, hat, hrv, hk⟩
  refine ⟨rfl, ⟨g', cap', G, r, 1, hS', hlv', hL', by omega, owns_base hrv hB2, ?_⟩, hk.mono fun k _ h => h.elim .inl (fun e => .inr (owns_ge hlv e))⟩
  refine hO.kept hk (fun e => ?_) (fun e => ?_)
  · rcases e with e | e
    · exact scan_ne_list hS hO.1 e.symm
    · exact owns_ne hlv hO.1 (by decide) e
  · rcases e with e | e
    · exact owns_ne_scan hO.2 hS (by decide) (by rw [← e]; rfl)
    · exact owns_ne2 hO.2 hlv (by decide) rfl e

theorem keep_out {w w' : World} {S D B B2 G0 r0 rc0 G : Nat} {pos most d anchor : Int} {lv tv gv rv : Value} {n m : Nat} {xs l : List Value} (hS : ScanAt w S D pos most lv tv gv) (hlv : w.ownsRow B 52 4 lv n xs) (hL : ListAt w G d false anchor rv 0 0) (hG : B2 ≤ G) (hrv : w.ownsRow B2 3 1 rv m l) (hO : Out w B G0 r0 rc0) (hG0 : G0 < B2) (hr0 : r0 < B2)
    (hk : Kept (fun k => k = S ∨ lv.ownBlock = some k ∨ k = G ∨ rv.ownBlock = some k) w w') : Out w' B G0 r0 rc0 := by
  refine hO.kept hk (fun e => ?_) (fun e => ?_)
  · rcases e with e | e | e | e
    · exact scan_ne_list hS hO.1 e.symm
    · exact owns_ne hlv hO.1 (by decide) e
    · omega
    · exact owns_ne hrv hO.1 (by decide) e
  · rcases e with e | e | e | e
    · exact owns_ne_scan hO.2 hS (by decide) (by rw [← e]; rfl)
    · exact owns_ne2 hO.2 hlv (by decide) rfl e
    · omega
    · have := owns_ge hrv e; omega

theorem keep_far {w w' : World} {S B B2 G : Nat} {lv rv : Value} {n m : Nat} {xs l : List Value} (hlv : w.ownsRow B 52 4 lv n xs) (hG : B2 ≤ G) (hrv : w.ownsRow B2 3 1 rv m l) (hB : B ≤ B2)
    (hk : Kept (fun k => k = S ∨ lv.ownBlock = some k ∨ k = G ∨ rv.ownBlock = some k) w w') : Kept (Far S B) w w' := by
  refine hk.mono fun k _ h => ?_
  rcases h with h | h | h | h
  · exact .inl h
  · exact .inr (owns_ge hlv h)
  · exact .inr (by omega)
  · exact .inr (by have := owns_ge hrv h; omega)

theorem nstepApp (S D B B2 G0 r0 rc0 k : Nat) (most d colon start : Int) (l : List Value) (w : World) (h : N1 w S D B B2 G0 r0 rc0 0 most d colon k l) (hD : DataAt w D) (hB : B ≤ B2) (hB2 : B2 ≤ w.heap.size) (hG0 : G0 < B2) (hr0 : r0 < B2) (hk0 : k ≤ 1048576) (hmost : most ≤ 0) :
    Calls Try.prog 18 #[.pointer (some ⟨S, 0, none⟩), .int .i64 start, .int .i64 d] w fun e w' => e = .returned (.int .i64 (-1)) ∧ N1 w' S D B B2 G0 r0 rc0 0 most d colon (k + 1) (l ++ [.int .i64 start]) ∧ Kept (Far S B) w w' := by
  obtain ⟨g, cap, G, r, rc, hS, hlv, hL, hG, hrv, hO⟩ := h
  refine enter18 S start d w _ ?_
  refine (enterB2 S D G B B2 k G0 most d colon colon start _ _ _ _ l w hS hD hlv (by omega) hL hrv hB2 hk0 hmost).mono ?_
  rintro e w' ⟨rfl, g', cap', hS', hlv', hat, ⟨r', rc', hL', hrv', hat'⟩, hk⟩
  exact ⟨rfl, ⟨g', cap', G, r', rc', hS', hlv', hL', hG, hrv', keep_out hS hlv hL hG hrv hO hG0 hr0 hk⟩, keep_far hlv hG hrv hB hk⟩

theorem nstepStay (S D B B2 G0 r0 rc0 k : Nat) (most d colon start : Int) (l : List Value) (w : World) (h : N1 w S D B B2 G0 r0 rc0 0 most d colon k l) (hD : DataAt w D) (hB : B ≤ B2) (hB2 : B2 ≤ w.heap.size) (hG0 : G0 < B2) (hr0 : r0 < B2) (hk0 : k ≤ 1048576) (hmost : 0 < most) :
    Calls Try.prog 18 #[.pointer (some ⟨S, 0, none⟩), .int .i64 start, .int .i64 d] w fun e w' => e = .returned (.int .i64 (-1)) ∧ N1 w' S D B B2 G0 r0 rc0 0 most d colon k l ∧ Kept (Far S B) w w' := by
  obtain ⟨g, cap, G, r, rc, hS, hlv, hL, hG, hrv, hO⟩ := h
  refine enter18 S start d w _ ?_
  refine (enterB2s S D G B B2 k G0 most d colon colon start _ _ _ _ l w hS hD hlv (by omega) hL hrv hB2 hk0 hmost).mono ?_
  rintro e w' ⟨rfl, g', cap', hS', hlv', hat, hL', hrv', hk⟩
  exact ⟨rfl, ⟨g', cap', G, r, rc, hS', hlv', hL', hG, hrv', keep_out hS hlv hL hG hrv hO hG0 hr0 hk⟩, keep_far hlv hG hrv hB hk⟩

/-- Behind the closing line: the targets' list open still. -/
def Fin0 (w : World) (S D B G0 r0 rc0 : Nat) (most : Int) (gv : Value) : Prop := ∃ g cap, ScanAt w S D 4 most (.slice (some ⟨g, 0, none⟩) 2 cap) (.slice none 0 0) gv ∧ w.ownsRow B 52 4 (.slice (some ⟨g, 0, none⟩) 2 cap) 2 (lev 0 true 0 (some G0) ++ lev 2 false 0 none) ∧ Out w B G0 r0 rc0

theorem out_r0 {w w' : World} {S D B G0 r0 rc0 : Nat} {pos most : Int} {lv tv gv : Value} (hS : ScanAt w S D pos most lv tv gv) (hO : Out w B G0 r0 rc0) (hk : Kept (fun k => k = S ∨ k = G0) w w') (hL : ListAt w' G0 2 true 0 (.slice (some ⟨r0, 0, none⟩) 1 rc0) 0 0) : Out w' B G0 r0 rc0 := by
  refine ⟨hL, hk.owns hO.2 fun k e h => ?_⟩
  rcases h with h | h
  · exact owns_ne_scan hO.2 hS (by decide) (by rw [e, h])
  · exact owns_ne hO.2 hO.1 (by decide) (by rw [e, h])

theorem nclose_one (S D B B2 G0 r0 rc0 k : Nat) (most d colon : Int) (l : List Value) (w : World) (h : N1 w S D B B2 G0 r0 rc0 4 most d colon k l) (hD : DataAt w D) (hG0 : G0 < B2) (hd : 4 ≤ d) (hk1 : k ≤ 1) (hBG : B ≤ G0) :
    Calls Try.prog 18 #[.pointer (some ⟨S, 0, none⟩), .int .i64 4, .int .i64 4] w fun e w' => e = .returned (.int .i64 (-1)) ∧ Fin0 w' S D B G0 r0 rc0 most (.slice none 0 0) ∧ Kept (Far S B) w w' := by
  obtain ⟨g, cap, G, r, rc, hS, hlv, hL, hG, hrv, hO⟩ := h
  refine enter18 S 4 4 w _ ?_
  refine (enterC2_one S D G G0 B most d colon colon 2 0 4 true _ _ _ _ k rc w hS hD hlv hL hO.1 (by omega) hd hk1).mono ?_
  rintro e w' ⟨rfl, g', cap', hS', hlv', hL', hk⟩
  exact ⟨rfl, ⟨g', cap', hS', hlv', out_r0 hS hO hk hL'⟩, hk.mono fun k _ h => h.elim .inl (fun e => .inr (by omega))⟩

theorem nclose_long (S D B B2 G0 r0 rc0 k : Nat) (most d colon : Int) (l : List Int) (w : World) (h : N1 w S D B B2 G0 r0 rc0 4 most d colon k (l.map (Value.int .i64))) (hw : ∀ x ∈ l, (Lit.int .i64 x).wf = true) (hD : DataAt w D) (hG0 : G0 < B2) (hd : 4 ≤ d) (hk1 : 2 ≤ k) (hBG : B ≤ G0) :
    Calls Try.prog 18 #[.pointer (some ⟨S, 0, none⟩), .int .i64 4, .int .i64 4] w fun e w' => e = .returned (.int .i64 (-1)) ∧
      (∃ q qc r rc, Fin0 w' S D B G0 r0 rc0 most (.slice (some ⟨q, 0, none⟩) 1 qc) ∧ w'.ownsRow w.heap.size 55 3 (.slice (some ⟨q, 0, none⟩) 1 qc) 1 [.bool false, .int .i64 colon, .slice (some ⟨r, 0, none⟩) k rc] ∧ Sl .i64 w' (some ⟨r, 0, none⟩) k rc l) ∧ Kept (Far S B) w w' := by
  obtain ⟨g, cap, G, r, rc, hS, hlv, hL, hG, hrv, hO⟩ := h
  refine enter18 S 4 4 w (fun w' => (∃ q qc r rc, Fin0 w' S D B G0 r0 rc0 most (.slice (some ⟨q, 0, none⟩) 1 qc) ∧ w'.ownsRow w.heap.size 55 3 (.slice (some ⟨q, 0, none⟩) 1 qc) 1 [.bool false, .int .i64 colon, .slice (some ⟨r, 0, none⟩) k rc] ∧ Sl .i64 w' (some ⟨r, 0, none⟩) k rc l) ∧ Kept (Far S B) w w') ?_
  refine (enterC2_long S D G G0 B most d colon colon 2 0 4 true _ _ _ _ k rc w hS hD hlv hL hO.1 (by omega) hd hk1).mono ?_
  rintro e w' ⟨rfl, g', cap', ⟨q, qc, hS', hq⟩, hlv', hL', hk⟩
  refine ⟨rfl, ⟨q, qc, r, rc, ⟨g', cap', hS', hlv', out_r0 hS hO hk hL'⟩, hq, ?_⟩, hk.mono fun k _ h => h.elim .inl (fun e => .inr (by omega))⟩
  refine Sl.of_owns (hk.owns hrv fun k' e h => ?_) hw
  rcases h with h | h
  · exact owns_ne_scan hrv hS (by decide) (by rw [e, h])
  · exact owns_ne hrv hO.1 (by decide) (by rw [e, h])

theorem nD (S D B B2 G0 r0 rc0 : Nat) (most colon : Int) (w : World) (h : N0 w S D B B2 G0 r0 rc0 4 most colon) (hD : DataAt w D) :
    Calls Try.prog 18 #[.pointer (some ⟨S, 0, none⟩), .int .i64 4, .int .i64 4] w fun e w' => e = .returned (.int .i64 (-1)) ∧ Fin0 w' S D B G0 r0 rc0 most (.slice none 0 0) ∧ Kept (Far S B) w w' := by
  obtain ⟨g, cap, hS, hlv, hO⟩ := h
  refine enter18 S 4 4 w _ ?_
  refine (enterD2 S D G0 B most colon 4 _ _ _ w hS hD hlv).mono ?_
  rintro e w' ⟨rfl, g', cap', hS', hlv', hk⟩
  exact ⟨rfl, ⟨g', cap', hS', hlv', out_r0 hS hO (hk.mono fun _ _ h => .inl h) (hO.1.kept hk fun e => scan_ne_list hS hO.1 e.symm)⟩, hk.mono fun k _ h => .inl h⟩

theorem N1.keptNo {w w' : World} {S D B B2 G0 r0 rc0 k : Nat} {pos most d colon : Int} {l : List Value} (h : N1 w S D B B2 G0 r0 rc0 pos most d colon k l) (hk : Kept no w w') : N1 w' S D B B2 G0 r0 rc0 pos most d colon k l := by
  obtain ⟨g, cap, G, r, rc, hS, hlv, hL, hG, hrv, hO⟩ := h
  exact ⟨g, cap, G, r, rc, hS.kept hk (fun h => h), hk.owns hlv (fun _ _ h => h), hL.kept hk (fun h => h), hG, hk.owns hrv (fun _ _ h => h), hO.kept hk (fun h => h) (fun h => h)⟩

theorem npos1 (S D B B2 G0 r0 rc0 k : Nat) (pos most d colon new : Int) (l : List Value) (w : World) (h : N1 w S D B B2 G0 r0 rc0 pos most d colon k l) :
    Calls Try.prog 28 #[.pointer (some ⟨S, 0, none⟩), .int .i64 new] w fun e w' => e = .returned (.tuple #[]) ∧ N1 w' S D B B2 G0 r0 rc0 new most d colon k l ∧ Kept (fun k => k = S) w w' := by
  obtain ⟨g, cap, G, r, rc, hS, hlv, hL, hG, hrv, hO⟩ := h
  refine (setPos28 S D pos most new _ _ _ w hS).mono ?_
  rintro e w' ⟨rfl, hS', hk⟩
  exact ⟨rfl, ⟨g, cap, G, r, rc, hS', hk.owns hlv (fun k hk e => owns_ne_scan hlv hS (by decide) (by rw [hk, e])), hL.kept hk (fun e => scan_ne_list hS hL e.symm), hG, hk.owns hrv (fun k hk e => owns_ne_scan hrv hS (by decide) (by rw [hk, e])),
    out_r0 hS hO (hk.mono fun _ _ h => .inl h) (hO.1.kept hk fun e => scan_ne_list hS hO.1 e.symm)⟩, hk⟩

theorem npos0 (S D B B2 G0 r0 rc0 : Nat) (pos most colon new : Int) (w : World) (h : N0 w S D B B2 G0 r0 rc0 pos most colon) :
    Calls Try.prog 28 #[.pointer (some ⟨S, 0, none⟩), .int .i64 new] w fun e w' => e = .returned (.tuple #[]) ∧ N0 w' S D B B2 G0 r0 rc0 new most colon ∧ Kept (fun k => k = S) w w' := by
  obtain ⟨g, cap, hS, hlv, hO⟩ := h
  refine (setPos28 S D pos most new _ _ _ w hS).mono ?_
  rintro e w' ⟨rfl, hS', hk⟩
  exact ⟨rfl, ⟨g, cap, hS', hk.owns hlv (fun k hk e => owns_ne_scan hlv hS (by decide) (by rw [hk, e])), out_r0 hS hO (hk.mono fun _ _ h => .inl h) (hO.1.kept hk fun e => scan_ne_list hS hO.1 e.symm)⟩, hk⟩

/-- The nested key is pushed upon the targets' first item. -/
theorem npush (S D B : Nat) (most colon : Int) (w : World) (h : Open1 w S D B 0 most 2 0 (.slice none 0 0) 1 [.int .i64 0]) (hB : B ≤ w.heap.size) :
    Calls Try.prog 17 #[.pointer (some ⟨S, 0, none⟩), .int .i64 4, .bool true, .int .i64 colon] w fun e w' => e = .returned (.tuple #[]) ∧ ∃ G0 r0 rc0, N0 w' S D B w'.heap.size G0 r0 rc0 0 most colon ∧ B ≤ G0 ∧ G0 < w'.heap.size ∧ r0 < w'.heap.size ∧ Kept (Far S B) w w' := by
  obtain ⟨g, cap, G, r, rc, hS, hlv, hL, hG, hrv⟩ := h
  refine (push17 S D B 2 0 most 4 colon true _ _ _ _ w hS hlv hB (by omega)).mono ?_
  rintro e w' ⟨rfl, g', cap', hS', hlv', hat, hk⟩
  have hO : Out w B G r rc := ⟨hL, hrv⟩
  have hO' : Out w' B G r rc := by
    refine hO.kept hk (fun e => ?_) (fun e => ?_)
    · rcases e with e | e
      · exact scan_ne_list hS hL e.symm
      · exact owns_ne hlv hL (by decide) e
    · rcases e with e | e
      · exact owns_ne_scan hrv hS (by decide) (by rw [← e]; rfl)
      · exact owns_ne2 hrv hlv (by decide) rfl e
  exact ⟨rfl, G, r, rc, ⟨g', cap', hS', hlv', hO'⟩, hG, lt_of_block hO'.1, (hO'.2.lt r rfl).2, hk.mono fun k _ h => h.elim .inl (fun e => .inr (owns_ge hlv e))⟩
end Go.Proofs.Qxb6600513a
