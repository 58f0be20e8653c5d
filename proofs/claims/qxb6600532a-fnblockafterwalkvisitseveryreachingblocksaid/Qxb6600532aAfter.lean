/-
  ZZBlockAfter, zzFirstReaching, the clones and the bounds of the three laws.
-/
import Derived.Test.Qxb6600532aBlockAfter
namespace Go.Proofs.Qxb6600532a
open Go.RowKit
set_option linter.unusedVariables false
set_option linter.unusedSimpArgs false

set_option maxHeartbeats 400000 in
theorem bytes7_yes (a : Option Addr) (n c : Nat) (x y : Int) (w : World) (h : n ≤ 1048576) :
    Calls Try.prog 7 #[.slice a n c, .int .i64 x, .int .i64 y] w fun e w' => e = .returned (.bool true) ∧ w' = w := by
  have d1 : decide ((1048576 : Int) < (n : Int)) = false := decide_eq_false (by omega)
  go_enter Try.func7, Try.ntmps7
  go_wp2
  go_ret
  exact ⟨rfl, rfl⟩

set_option maxHeartbeats 400000 in
theorem bytes7_no (a : Option Addr) (n c : Nat) (x y : Int) (w : World) (h : ¬ n ≤ 1048576) :
    Calls Try.prog 7 #[.slice a n c, .int .i64 x, .int .i64 y] w fun e w' => e = .returned (.bool false) ∧ w' = w := by
  have d1 : (1048576 : Int) < (n : Int) := by omega
  go_enter Try.func7, Try.ntmps7
  go_wp2
  go_ret
  exact ⟨rfl, rfl⟩

set_option maxHeartbeats 400000 in
theorem bytes12_yes (a : Option Addr) (n c : Nat) (x y z u : Int) (w : World) (h : n ≤ 1048576) :
    Calls Try.prog 12 #[.slice a n c, .int .i64 x, .int .i64 y, .int .i64 z, .int .i64 u] w fun e w' => e = .returned (.bool true) ∧ w' = w := by
  have d1 : decide ((1048576 : Int) < (n : Int)) = false := decide_eq_false (by omega)
  go_enter Try.func12, Try.ntmps12
  go_wp2
  go_ret
  exact ⟨rfl, rfl⟩

set_option maxHeartbeats 400000 in
theorem bytes12_no (a : Option Addr) (n c : Nat) (x y z u : Int) (w : World) (h : ¬ n ≤ 1048576) :
    Calls Try.prog 12 #[.slice a n c, .int .i64 x, .int .i64 y, .int .i64 z, .int .i64 u] w fun e w' => e = .returned (.bool false) ∧ w' = w := by
  have d1 : (1048576 : Int) < (n : Int) := by omega
  go_enter Try.func12, Try.ntmps12
  go_wp2
  go_ret
  exact ⟨rfl, rfl⟩

set_option maxHeartbeats 400000 in
theorem bytes13_yes (a : Option Addr) (n c : Nat) (x : Int) (w : World) (h : n ≤ 1048576) :
    Calls Try.prog 13 #[.slice a n c, .int .i64 x] w fun e w' => e = .returned (.bool true) ∧ w' = w := by
  have d1 : decide ((1048576 : Int) < (n : Int)) = false := decide_eq_false (by omega)
  go_enter Try.func13, Try.ntmps13
  go_wp2
  go_ret
  exact ⟨rfl, rfl⟩

set_option maxHeartbeats 400000 in
theorem bytes13_no (a : Option Addr) (n c : Nat) (x : Int) (w : World) (h : ¬ n ≤ 1048576) :
    Calls Try.prog 13 #[.slice a n c, .int .i64 x] w fun e w' => e = .returned (.bool false) ∧ w' = w := by
  have d1 : (1048576 : Int) < (n : Int) := by omega
  go_enter Try.func13, Try.ntmps13
  go_wp2
  go_ret
  exact ⟨rfl, rfl⟩

/-- The clone is a row of the tree's kind. -/
theorem clone8_row (a : Option Addr) (n c : Nat) (l : List Int) (w : World) (hn : n ≤ 1048576) (h : Sl .u16 w a n c l) :
    Calls Try.prog 8 #[.slice a n c] w fun e w' => ∃ a' c', e = .returned (.slice a' n c') ∧ Below w.heap.size w w' ∧ RowAt w' a' n c' l := by
  cases a with
  | none =>
    obtain ⟨rfl, rfl⟩ := h.nil rfl
    refine (clone8_nil w).mono ?_
    rintro e w' ⟨rfl, rfl⟩
    exact ⟨none, 0, rfl, Below.refl _ _, h, fun b off e => by cases e⟩
  | some x =>
    refine (clone8_some x n c l w hn h).mono ?_
    rintro e w' ⟨rfl, hb, hg⟩
    exact ⟨_, n, rfl, hb, RowAt.of_block hg h.len hn h.wf⟩

/-- A tree is a slice of h + 1 rows. -/
theorem TreeAt.form {w : World} {B : Nat} {tv : Value} {l : List Int} {h : Nat} (ht : TreeAt w B tv l h) : ∃ g cap, tv = .slice (some ⟨g, 0, none⟩) (h + 1) cap ∧ h + 1 ≤ cap := by
  obtain ⟨vs, ho, -⟩ := ht
  rcases ho.2 with ⟨rfl, h0⟩ | ⟨g, cap, cur, rfl, hb, hg, rest⟩
  · omega
  · exact ⟨g, cap, rfl, rest.1⟩

set_option maxHeartbeats 1000000 in
theorem after9 (B g hh cap : Nat) (l : List Int) (b d : Int) (w : World) (hn : l.length ≤ 65536) (ht : TreeAt w B (.slice (some ⟨g, 0, none⟩) (hh + 1) cap) l hh) (hh1 : (lv l hh).length ≤ 1) (hh2 : hh ≤ 65536) (hb0 : -1 ≤ b) (hb1 : b ≤ 1073741824) :
    Calls Try.prog 9 #[.slice (some ⟨g, 0, none⟩) (hh + 1) cap, .int .i64 b, .int .i64 d] w fun e w' => (∃ r, e = .returned (.int .i64 r) ∧ FR l b d r) ∧ Kept no w w' := by
  have HB : Hid (∀ (Nn : Nat) (w : World), w.cell? ⟨Nn, 2, none⟩ = some (.slice (some ⟨g, 0, none⟩) (hh + 1) cap) → TreeAt w B (.slice (some ⟨g, 0, none⟩) (hh + 1) cap) l hh → Calls Try.prog 19 #[.pointer (some ⟨Nn, 0, none⟩), .int .i64 b, .int .i64 d] w fun e w' => (∃ r, e = .returned (.int .i64 r) ∧ FR l b d r) ∧ Kept no w w') := fun Nn w h1 h2 => blockAfter19 Nn B g hh cap l b d w hn h1 h2 hh1 hh2 hb0 hb1
  have HT : Hid (TreeAt w B (.slice (some ⟨g, 0, none⟩) (hh + 1) cap) l hh) := ht
  clear ht
  go_enter Try.func9, Try.ntmps9
  go_wp2_with fail
  obtain ⟨w1, hw1⟩ : ∃ w1, w1 = w.alloc (.cells #[.slice none 0 0, .slice none 0 0, .slice (some ⟨g, 0, none⟩) (hh + 1) cap] 44) := ⟨_, rfl⟩
  have k1 : Kept no w w1 := by rw [hw1]; exact (Kept.refl no w).alloc _
  have hc : w1.cell? ⟨w.heap.size, 2, none⟩ = some (.slice (some ⟨g, 0, none⟩) (hh + 1) cap) := by
    rw [hw1, World.cell?, heap_new]; rfl
  rw [← hw1]
  refine (HB.out _ _ hc (HT.out.kept k1 (fun _ h => h.elim) (fun _ _ _ _ h => h))).mono ?_
  rintro e w2 ⟨⟨r, rfl, hr⟩, k2⟩
  have HR : Hid (FR l b d r ∧ Kept no w w2) := ⟨hr, k1.same k2⟩
  clear hr k1 k2 HB HT hc hw1
  go_wp2
  go_ret
  exact ⟨⟨r, rfl, HR.out.1⟩, HR.out.2⟩

set_option maxHeartbeats 1000000 in
theorem first11 (a : Option Addr) (n c : Nat) (l : List Int) (b d : Int) (w : World) (hn : n ≤ 65536) (h : Sl .u16 w a n c l) :
    Calls Try.prog 11 #[.slice a n c, .int .i64 b, .int .i64 d] w fun e w' => (∃ r, e = .returned (.int .i64 r) ∧ FR l b d r) ∧ w' = w := by
  have HS : Hid (Sl .u16 w a n c l) := h
  have hl := h.len
  have HL : Hid (l.length = n) := hl
  clear h hl
  go_enter Try.func11, Try.ntmps11
  go_wp2
  go_loopw [7] (fun iv wr => ∃ k : Nat, k ≤ n ∧ iv = .int .i64 k ∧ Hid (∀ j : Nat, b < (j : Int) → j < k → d < l.getD j 0) ∧ wr = w) (fun iv _ => n - (intOf iv).toNat)
  case atStart => exact ⟨0, by omega, rfl, fun j _ hj => by omega, rfl⟩
  case round =>
    obtain ⟨k, hk, rfl, E, hw⟩ := hrel
    subst hw
    by_cases hlt : k < n
    · obtain ⟨bb, off, rfl, hcell⟩ := HS.out.cells (by omega)
      have hx := hcell k hlt
      have hm : l.getD k 0 ∈ l := by
        have : k < l.length := by rw [HL.out]; exact hlt
        simp [List.getElem?_eq_getElem this]
      have hwf := u16_bounds (HS.out.wf _ hm)
      obtain ⟨x0, x1⟩ := hwf
      have EX : Hid (b < (k : Int) → l.getD k 0 ≤ d → FR l b d k) := fun h1 h2 => .inr ⟨k, rfl, by rw [HL.out]; exact hlt, h1, h2, fun j h3 hj => E.out j h3 hj⟩
      have EN : Hid (¬ (b < (k : Int)) ∨ d < l.getD k 0 → ∀ j : Nat, b < (j : Int) → j < k + 1 → d < l.getD j 0) := fun h j h3 hj => by
        rcases Nat.lt_or_ge j k with h' | h'
        · exact E.out j h3 h'
        · obtain rfl : j = k := by omega
          rcases h with h | h
          · exact absurd h3 h
          · exact h
      clear hcell hm
      generalize l.getD k 0 = x at hx EX EN x0 x1
      by_cases hbk : b < (k : Int)
      · have db : decide (b < (k : Int)) = true := decide_eq_true hbk
        by_cases hxd : x ≤ d
        · have dx : decide (x ≤ d) = true := decide_eq_true hxd
          go_wp2
          go_ret
          exact ⟨⟨k, rfl, EX.out hbk hxd⟩, rfl⟩
        · have dx : decide (x ≤ d) = false := decide_eq_false hxd
          go_wp2
          go_roundw
          case rel => exact ⟨k + 1, by omega, by go_num, EN.out (.inr (by omega)), by trivial⟩
          case measure => simp [intOf]; omega
      · have db : decide (b < (k : Int)) = false := decide_eq_false hbk
        go_wp2
        go_roundw
        case rel => exact ⟨k + 1, by omega, by go_num, EN.out (.inl hbk), by trivial⟩
        case measure => simp [intOf]; omega
    · go_wp2
      go_ret
      exact ⟨⟨-1, rfl, .inl ⟨rfl, fun j h3 hj => E.out j h3 (by rw [HL.out] at hj; omega)⟩⟩, rfl⟩
end Go.Proofs.Qxb6600532a
