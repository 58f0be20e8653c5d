/-
  ZZPushLevel, zzEqualIntsB1, the bounds.
-/
import Derived.Test.Qxb6600513aReaders
namespace Go.Proofs.Qxb6600513a
open Go.RowKit
set_option linter.unusedVariables false
set_option linter.unusedSimpArgs false

set_option maxHeartbeats 1000000 in
theorem push17 (S D B n : Nat) (pos most indent colon : Int) (key : Bool) (lv tv gv : Value) (xs : List Value) (w : World) (hS : ScanAt w S D pos most lv tv gv) (hlv : w.ownsRow B 52 4 lv n xs) (hB : B ≤ w.heap.size) (hn : n ≤ 1000) :
    Calls Try.prog 17 #[.pointer (some ⟨S, 0, none⟩), .int .i64 indent, .bool key, .int .i64 colon] w fun e w' => e = .returned (.tuple #[]) ∧
      ∃ g cap, ScanAt w' S D pos most (.slice (some ⟨g, 0, none⟩) (n + 1) cap) tv gv ∧ w'.ownsRow B 52 4 (.slice (some ⟨g, 0, none⟩) (n + 1) cap) (n + 1) (xs ++ lev indent key colon none) ∧ (lv.ownBlock = some g ∨ w.heap.size ≤ g) ∧ Kept (fun k => k = S ∨ lv.ownBlock = some k) w w' := by
  have hne := owns_ne_scan hlv hS (by decide)
  have c3 := hS.c3
  have s0 : S < w.heap.size := lt_of_block hS
  have HS : Hid (ScanAt w S D pos most lv tv gv) := hS
  have HLV : Hid (w.ownsRow B 52 4 lv n xs) := hlv
  clear hS hlv
  obtain ⟨i0, hi, hz0, hz1, hz2⟩ := info_parts Try.info52
  have HNEW : Hid (∀ j u, (lev indent key colon none)[j]? = some u → (w.alloc (.cells (lev indent key colon none).toArray 52)).cell? ((⟨w.heap.size, 0, none⟩ : Addr).add j) = some u) := cells_new _ _ _
  have HB : Hid (∀ o w6, (w.alloc o).grownBy w6 lv.ownBlock → Kept (fun k => lv.ownBlock = some k) w w6) := fun o w6 hg => Kept.grown ((Kept.refl _ w).alloc o) hg (fun k hk => .inl hk)
  go_enter Try.func17, Try.ntmps17
  go_wp2_with (at_builtin; (refine wpList_append_lies _ (by rfl) (.tmp 12) (.tmp 17) 46 (by rfl) B 52 i0 _ 4 32 Try.underlying46 hi hz0 hz1 hz2 (by rfl) (by omega) lv n xs (by rfl) (by exact HLV.out.alloc _) ⟨w.heap.size, 0, none⟩ 1 1 (lev indent key colon none) (by rfl) (by rfl) (by exact HNEW.out) (by simp [lev, Value.oneCell']) (by omega) (by unfold maxLen; omega) (by omega) (by simp; omega) (w.heap.size + 1) (by simp) ?_); intro g cap w6 hown6 hgrow hat hlt; have q3 := HB.out _ w6 hgrow; have hS6 : ScanAt w6 S D pos most lv tv gv := q3.heap HS.out hne; have t3 := hS6.c3; have u3 := hS6.fr 3; have HS6 : Hid (ScanAt w6 S D pos most lv tv gv) := hS6; clear hS6)
  go_end0
  refine ⟨rfl, g, cap, HS6.out.set3 _, ?_, hat.elim .inl (fun h => .inr (by omega)), ?_⟩
  · exact ownsRow_setCell_other (a := ⟨S, 3, none⟩) hown6 (owns_ne_scan hown6 HS6.out (by decide)) _
  · exact Kept.setCell (p := fun k => k = S ∨ lv.ownBlock = some k) (q3.mono fun _ _ h => .inr h) (q := ⟨S, 3, none⟩) (.inl (.inl rfl)) _

theorem Sl.keptNo {k : IntKind} {w w' : World} {a : Option Addr} {n c : Nat} {l : List Int} (h : Sl k w a n c l) (hk : Kept no w w') : Sl k w' a n c l := hk.sl h (fun _ _ h => h)

set_option maxHeartbeats 1000000 in
theorem eq26_some (b1 o1 c1 b2 o2 c2 n : Nat) (l : List Int) (w : World) (hn : n ≤ 1048577) (h1 : ∀ i, i < n → w.cell? ⟨b1, o1 + i, none⟩ = some (.int .i64 (l.getD i 0))) (h2 : ∀ i, i < n → w.cell? ⟨b2, o2 + i, none⟩ = some (.int .i64 (l.getD i 0))) :
    Calls Try.prog 26 #[.slice (some ⟨b1, o1, none⟩) n c1, .slice (some ⟨b2, o2, none⟩) n c2] w fun e w' => e = .returned (.bool true) ∧ ∃ q, w' = w.drewN q := by
  have H1 : Hid (∀ i, i < n → w.cell? ⟨b1, o1 + i, none⟩ = some (.int .i64 (l.getD i 0))) := h1
  have H2 : Hid (∀ i, i < n → w.cell? ⟨b2, o2 + i, none⟩ = some (.int .i64 (l.getD i 0))) := h2
  clear h1 h2
  have hnn : ((n : Int) != (n : Int)) = false := by simp
  go_enter Try.func26, Try.ntmps26
  go_wp2
  go_loopw [5] (fun iv wr => ∃ k q : Nat, k ≤ n ∧ iv = .int .i64 k ∧ wr = w.drewN q) (fun iv _ => n - (intOf iv).toNat)
  case atStart => exact ⟨0, 0, by omega, rfl, rfl⟩
  case round =>
    obtain ⟨k, q, hk, rfl, rfl⟩ := hrel
    by_cases hlt : k < n
    · have a1 := H1.out k hlt
      have a2 := H2.out k hlt
      have hxx : (l.getD k 0 != l.getD k 0) = false := by simp
      generalize l.getD k 0 = x at *
      go_wp2
      go_quiet (fail)
      go_wp2
      go_roundw
      case rel => exact ⟨k + 1, q + nq, by omega, by go_num, by first | rfl | simp | (simp; omega)⟩
      case measure => simp [intOf]; omega
    · go_wp2
      go_ret
      exact ⟨rfl, q, rfl⟩

set_option maxHeartbeats 400000 in
theorem eq26_none (a1 a2 : Option Addr) (c1 c2 : Nat) (w : World) :
    Calls Try.prog 26 #[.slice a1 0 c1, .slice a2 0 c2] w fun e w' => e = .returned (.bool true) ∧ ∃ q, w' = w.drewN q := by
  go_enter Try.func26, Try.ntmps26
  go_wp2
  go_loopw [5] (fun iv wr => iv = .int .i64 0 ∧ wr = w) (fun _ _ => 0)
  case atStart => exact ⟨rfl, rfl⟩
  case round =>
    obtain ⟨rfl, hw⟩ := hrel
    subst hw
    go_wp2
    go_ret
    exact ⟨rfl, 0, rfl⟩

theorem eq26 (a1 a2 : Option Addr) (c1 c2 n : Nat) (l : List Int) (w : World) (hn : n ≤ 1048577) (h1 : Sl .i64 w a1 n c1 l) (h2 : Sl .i64 w a2 n c2 l) :
    Calls Try.prog 26 #[.slice a1 n c1, .slice a2 n c2] w fun e w' => e = .returned (.bool true) ∧ Kept no w w' := by
  rcases Nat.eq_zero_or_pos n with h0 | h0
  · subst h0
    refine (eq26_none a1 a2 c1 c2 w).mono ?_
    rintro e w' ⟨rfl, q, rfl⟩
    exact ⟨rfl, (Kept.refl _ w).drewN q⟩
  · obtain ⟨b1, o1, rfl, k1⟩ := h1.cells h0
    obtain ⟨b2, o2, rfl, k2⟩ := h2.cells h0
    refine (eq26_some b1 o1 c1 b2 o2 c2 n l w hn k1 k2).mono ?_
    rintro e w' ⟨rfl, q, rfl⟩
    exact ⟨rfl, (Kept.refl _ w).drewN q⟩

theorem Sl.of_owns {w : World} {B g m cap : Nat} {l : List Int} (h : w.ownsRow B 3 1 (.slice (some ⟨g, 0, none⟩) m cap) m (l.map (Value.int .i64))) (hw : ∀ x ∈ l, (Lit.int .i64 x).wf = true) : Sl .i64 w (some ⟨g, 0, none⟩) m cap l := by
  have hl : l.length = m := by have := h.1; simpa using this
  rcases h.2 with ⟨h', _⟩ | ⟨g', cap', cur, h', _, hg, h2, h3, _⟩
  · simp at h'
  · simp only [Value.slice.injEq, Option.some.injEq, Addr.mk.injEq, and_true, true_and] at h'
    obtain ⟨rfl, rfl⟩ := h'
    refine ⟨hl, h2, h3, fun e => by simp at e, fun _ => ⟨g, 0, rfl, fun i hi => ?_⟩, hw⟩
    rw [Nat.zero_add, h.cellAt i (by omega)]
    have : i < l.length := by omega
    simp [List.getElem?_eq_getElem this]

set_option maxHeartbeats 400000 in
theorem bytes13_yes (a0 a1 : Option Addr) (n0 c0 n1 c1 : Nat) (x1 x2 x3 x4 : Int) (w : World) (h : n0 + n1 ≤ 1048576) :
    Calls Try.prog 13 #[.slice a0 n0 c0, .int .i64 x1, .int .i64 x2, .int .i64 x3, .int .i64 x4, .slice a1 n1 c1] w fun e w' => e = .returned (.bool true) ∧ w' = w := by
  have h0 : ¬ (1048576 : Int) < (n0 : Int) := by omega
  have h1 : ¬ (1048576 : Int) < (n1 : Int) := by omega
  have h2 : ¬ (1048576 : Int) < (n0 : Int) + (n1 : Int) := by omega
  go_enter Try.func13, Try.ntmps13
  go_wp2
  go_ret
  exact ⟨rfl, rfl⟩

set_option maxHeartbeats 400000 in
theorem bytes13_no (a0 a1 : Option Addr) (n0 c0 n1 c1 : Nat) (x1 x2 x3 x4 : Int) (w : World) (h : ¬ n0 + n1 ≤ 1048576) :
    Calls Try.prog 13 #[.slice a0 n0 c0, .int .i64 x1, .int .i64 x2, .int .i64 x3, .int .i64 x4, .slice a1 n1 c1] w fun e w' => e = .returned (.bool false) ∧ w' = w := by
  by_cases h0 : n0 ≤ 1048576
  · by_cases h1 : n1 ≤ 1048576
    · have h2 : (1048576 : Int) < (n0 : Int) + (n1 : Int) := by omega
      go_enter Try.func13, Try.ntmps13
      go_wp2
      go_ret
      exact ⟨rfl, rfl⟩
    · go_enter Try.func13, Try.ntmps13
      go_wp2
      go_ret
      exact ⟨rfl, rfl⟩
  · go_enter Try.func13, Try.ntmps13
    go_wp2
    go_ret
    exact ⟨rfl, rfl⟩

set_option maxHeartbeats 400000 in
theorem bytes30_yes (a0 : Option Addr) (n0 c0 : Nat) (x1 x2 x3 : Int) (w : World) (h : n0 ≤ 1048576) :
    Calls Try.prog 30 #[.slice a0 n0 c0, .int .i64 x1, .int .i64 x2, .int .i64 x3] w fun e w' => e = .returned (.bool true) ∧ w' = w := by
  go_enter Try.func30, Try.ntmps30
  go_wp2
  go_ret
  exact ⟨rfl, rfl⟩

set_option maxHeartbeats 400000 in
theorem bytes30_no (a0 : Option Addr) (n0 c0 : Nat) (x1 x2 x3 : Int) (w : World) (h : ¬ n0 ≤ 1048576) :
    Calls Try.prog 30 #[.slice a0 n0 c0, .int .i64 x1, .int .i64 x2, .int .i64 x3] w fun e w' => e = .returned (.bool false) ∧ w' = w := by
  go_enter Try.func30, Try.ntmps30
  go_wp2
  go_ret
  exact ⟨rfl, rfl⟩
end Go.Proofs.Qxb6600513a
