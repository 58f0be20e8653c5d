/-
  The proof of Rows.FnBlockAfterNoLaterFromEarlierOrDeeperSaid, in the shell that came with the seat.
-/
import Derived.Test.Qxb6600532aRows
import Derived.Test.Qxb6600532aAfter
import Derived.WalkKit
import Derived.ProofKit
import Derived.OpenShut
import Derived.ShutString
import Derived.ChangeOld
import Derived.Below
namespace Go.Proofs.Qxb6600532a.fnBlockAfterNoLaterFromEarlierOrDeeper
open Go.ChangeShapes Go.WideShapes Go.ChangeAt Go.RowKit
open Go.ChangeMaps (open_string shut_string)
set_option linter.unusedVariables false

theorem own : ownKnob Try.prog.godebug = none := by kernel_rfl
theorem laidOut : laidOutB Try.prog = true := by kernel_rfl

/-- WHAT THE WALK IS TOLD OF A SLICE OF INTEGERS THAT CAME IN: it is nil; or it leads to a row of 'cap' cells, the numbers 'zs' (the first 'len' are its elements, the rest its spare room), each fitting its kind. -/
def IsRow (k : IntKind) (w : World) (a : Option Addr) (len cap : Nat) (zs : List Int) : Prop :=
  (a = none ∧ len = 0 ∧ cap = 0 ∧ zs = []) ∨
  ∃ x, a = some x ∧ len ≤ cap ∧ cap ≤ maxLen ∧ zs.length = cap ∧ (∀ i, i < zs.length → w.cell? (x.add i) = some (.int k (zs.getD i 0))) ∧ ∀ n ∈ zs, (Lit.int k n).wf = true

/-- Asking from an earlier block with a depth at least as great finds no later block. -/
theorem no_later {l : List Int} {b1 b2 d1 d2 r1 r2 : Int} (hb : b1 ≤ b2) (hd : d2 ≤ d1) (h1 : FR l b1 d1 r1) (h2 : FR l b2 d2 r2) : r2 = -1 ∨ r1 ≠ -1 ∧ r1 ≤ r2 := by
  rcases h2 with ⟨rfl, -⟩ | ⟨i, rfl, i1, i2, i3, -⟩
  · exact .inl rfl
  · right
    rcases h1 with ⟨rfl, k⟩ | ⟨j, rfl, j1, j2, j3, j4⟩
    · have := k i (by omega) i1; omega
    · refine ⟨by omega, ?_⟩
      rcases Nat.lt_or_ge i j with h | h
      · have := j4 i (by omega) h; omega
      · omega

/-- From the shell's words to ours. -/
theorem sl_of {k : IntKind} {w : World} {a : Option Addr} {len cap : Nat} {zs : List Int} (h : IsRow k w a len cap zs) : Sl k w a len cap (zs.take len) := by
  rcases h with ⟨rfl, rfl, rfl, rfl⟩ | ⟨x, rfl, hl, hm, hz, hc, hw⟩
  · exact ⟨rfl, Nat.le_refl _, by decide, fun _ => ⟨rfl, rfl⟩, fun h => absurd h (by omega), by simp⟩
  · refine ⟨by simp; omega, hl, hm, fun e => by simp at e, fun h0 => ?_, fun n hn => hw n (List.mem_of_mem_take hn)⟩
    obtain ⟨b, off, spot⟩ := x
    have hspot : spot = none := by simpa [Addr.add] using World.cell?_spot (hc 0 (by omega))
    subst hspot
    refine ⟨b, off, rfl, fun i hi => ?_⟩
    rw [← add_plain, hc i (by omega)]
    have h1 : i < zs.length := by omega
    simp [List.getElem?_eq_getElem h1, hi]

set_option maxHeartbeats 1000000 in
theorem walk_big (a0 : Option Addr) (n c : Nat) (b1 b2 d1 d2 : Int) (w : World) (h : ¬ n ≤ 1048576) :
    Calls Try.prog 4 #[.slice a0 n c, .int .i64 b1, .int .i64 b2, .int .i64 d1, .int .i64 d2] w fun e w' => e = .returned (.bool true) ∧ Below w.heap.size w w' := by
  have B := fun w => bytes12_no a0 n c b1 b2 d1 d2 w (by omega)
  go_enter Try.func4, Try.ntmps4
  go_wp2_with fail
  refine (B _).mono ?_
  rintro e w1 ⟨rfl, hw1⟩
  cases hw1
  clear B
  go_wp2
  go_ret
  exact ⟨rfl, Below.refl _ _⟩

set_option maxHeartbeats 1000000 in
theorem walk_long (a0 : Option Addr) (n c : Nat) (b1 b2 d1 d2 : Int) (w : World) (h : n ≤ 1048576) (h2 : 65536 < n) :
    Calls Try.prog 4 #[.slice a0 n c, .int .i64 b1, .int .i64 b2, .int .i64 d1, .int .i64 d2] w fun e w' => e = .returned (.bool true) ∧ Below w.heap.size w w' := by
  have B := fun w => bytes12_yes a0 n c b1 b2 d1 d2 w (by omega)
  have dl : (65536 : Int) < (n : Int) := by omega
  go_enter Try.func4, Try.ntmps4
  go_wp2_with fail
  refine (B _).mono ?_
  rintro e w1 ⟨rfl, hw1⟩
  cases hw1
  clear B
  go_wp2
  go_ret
  exact ⟨rfl, Below.refl _ _⟩

set_option maxHeartbeats 1000000 in
theorem walk_out0 (a0 : Option Addr) (n c : Nat) (b1 b2 d1 d2 : Int) (w : World) (h : n ≤ 65536)  (g0 : b1 < (-1 : Int)) :
    Calls Try.prog 4 #[.slice a0 n c, .int .i64 b1, .int .i64 b2, .int .i64 d1, .int .i64 d2] w fun e w' => e = .returned (.bool true) ∧ Below w.heap.size w w' := by
  have B := fun w => bytes12_yes a0 n c b1 b2 d1 d2 w (by omega)
  have dl : decide ((65536 : Int) < (n : Int)) = false := decide_eq_false (by omega)
  have t0 : decide (b1 < (-1 : Int)) = true := decide_eq_true (by omega)
  go_enter Try.func4, Try.ntmps4
  go_wp2_with fail
  refine (B _).mono ?_
  rintro e w1 ⟨rfl, hw1⟩
  cases hw1
  clear B
  go_wp2
  go_ret
  exact ⟨rfl, Below.refl _ _⟩

set_option maxHeartbeats 1000000 in
theorem walk_out1 (a0 : Option Addr) (n c : Nat) (b1 b2 d1 d2 : Int) (w : World) (h : n ≤ 65536) (g0 : ¬ b1 < (-1 : Int)) (g1 : (1073741824 : Int) < b1) :
    Calls Try.prog 4 #[.slice a0 n c, .int .i64 b1, .int .i64 b2, .int .i64 d1, .int .i64 d2] w fun e w' => e = .returned (.bool true) ∧ Below w.heap.size w w' := by
  have B := fun w => bytes12_yes a0 n c b1 b2 d1 d2 w (by omega)
  have dl : decide ((65536 : Int) < (n : Int)) = false := decide_eq_false (by omega)
  have f0 : decide (b1 < (-1 : Int)) = false := decide_eq_false (by omega)
  have t1 : decide ((1073741824 : Int) < b1) = true := decide_eq_true (by omega)
  go_enter Try.func4, Try.ntmps4
  go_wp2_with fail
  refine (B _).mono ?_
  rintro e w1 ⟨rfl, hw1⟩
  cases hw1
  clear B
  go_wp2
  go_ret
  exact ⟨rfl, Below.refl _ _⟩

set_option maxHeartbeats 1000000 in
theorem walk_out2 (a0 : Option Addr) (n c : Nat) (b1 b2 d1 d2 : Int) (w : World) (h : n ≤ 65536) (g0 : ¬ b1 < (-1 : Int)) (g1 : ¬ (1073741824 : Int) < b1) (g2 : b2 < (-1 : Int)) :
    Calls Try.prog 4 #[.slice a0 n c, .int .i64 b1, .int .i64 b2, .int .i64 d1, .int .i64 d2] w fun e w' => e = .returned (.bool true) ∧ Below w.heap.size w w' := by
  have B := fun w => bytes12_yes a0 n c b1 b2 d1 d2 w (by omega)
  have dl : decide ((65536 : Int) < (n : Int)) = false := decide_eq_false (by omega)
  have f0 : decide (b1 < (-1 : Int)) = false := decide_eq_false (by omega)
  have f1 : decide ((1073741824 : Int) < b1) = false := decide_eq_false (by omega)
  have t2 : decide (b2 < (-1 : Int)) = true := decide_eq_true (by omega)
  go_enter Try.func4, Try.ntmps4
  go_wp2_with fail
  refine (B _).mono ?_
  rintro e w1 ⟨rfl, hw1⟩
  cases hw1
  clear B
  go_wp2
  go_ret
  exact ⟨rfl, Below.refl _ _⟩

set_option maxHeartbeats 1000000 in
theorem walk_out3 (a0 : Option Addr) (n c : Nat) (b1 b2 d1 d2 : Int) (w : World) (h : n ≤ 65536) (g0 : ¬ b1 < (-1 : Int)) (g1 : ¬ (1073741824 : Int) < b1) (g2 : ¬ b2 < (-1 : Int)) (g3 : (1073741824 : Int) < b2) :
    Calls Try.prog 4 #[.slice a0 n c, .int .i64 b1, .int .i64 b2, .int .i64 d1, .int .i64 d2] w fun e w' => e = .returned (.bool true) ∧ Below w.heap.size w w' := by
  have B := fun w => bytes12_yes a0 n c b1 b2 d1 d2 w (by omega)
  have dl : decide ((65536 : Int) < (n : Int)) = false := decide_eq_false (by omega)
  have f0 : decide (b1 < (-1 : Int)) = false := decide_eq_false (by omega)
  have f1 : decide ((1073741824 : Int) < b1) = false := decide_eq_false (by omega)
  have f2 : decide (b2 < (-1 : Int)) = false := decide_eq_false (by omega)
  have t3 : decide ((1073741824 : Int) < b2) = true := decide_eq_true (by omega)
  go_enter Try.func4, Try.ntmps4
  go_wp2_with fail
  refine (B _).mono ?_
  rintro e w1 ⟨rfl, hw1⟩
  cases hw1
  clear B
  go_wp2
  go_ret
  exact ⟨rfl, Below.refl _ _⟩

set_option maxHeartbeats 1000000 in
theorem walk_out4 (a0 : Option Addr) (n c : Nat) (b1 b2 d1 d2 : Int) (w : World) (h : n ≤ 65536) (g0 : ¬ b1 < (-1 : Int)) (g1 : ¬ (1073741824 : Int) < b1) (g2 : ¬ b2 < (-1 : Int)) (g3 : ¬ (1073741824 : Int) < b2) (g4 : b2 < b1) :
    Calls Try.prog 4 #[.slice a0 n c, .int .i64 b1, .int .i64 b2, .int .i64 d1, .int .i64 d2] w fun e w' => e = .returned (.bool true) ∧ Below w.heap.size w w' := by
  have B := fun w => bytes12_yes a0 n c b1 b2 d1 d2 w (by omega)
  have dl : decide ((65536 : Int) < (n : Int)) = false := decide_eq_false (by omega)
  have f0 : decide (b1 < (-1 : Int)) = false := decide_eq_false (by omega)
  have f1 : decide ((1073741824 : Int) < b1) = false := decide_eq_false (by omega)
  have f2 : decide (b2 < (-1 : Int)) = false := decide_eq_false (by omega)
  have f3 : decide ((1073741824 : Int) < b2) = false := decide_eq_false (by omega)
  have t4 : decide (b2 < b1) = true := decide_eq_true (by omega)
  go_enter Try.func4, Try.ntmps4
  go_wp2_with fail
  refine (B _).mono ?_
  rintro e w1 ⟨rfl, hw1⟩
  cases hw1
  clear B
  go_wp2
  go_ret
  exact ⟨rfl, Below.refl _ _⟩

set_option maxHeartbeats 1000000 in
theorem walk_out5 (a0 : Option Addr) (n c : Nat) (b1 b2 d1 d2 : Int) (w : World) (h : n ≤ 65536) (g0 : ¬ b1 < (-1 : Int)) (g1 : ¬ (1073741824 : Int) < b1) (g2 : ¬ b2 < (-1 : Int)) (g3 : ¬ (1073741824 : Int) < b2) (g4 : ¬ b2 < b1) (g5 : d1 < d2) :
    Calls Try.prog 4 #[.slice a0 n c, .int .i64 b1, .int .i64 b2, .int .i64 d1, .int .i64 d2] w fun e w' => e = .returned (.bool true) ∧ Below w.heap.size w w' := by
  have B := fun w => bytes12_yes a0 n c b1 b2 d1 d2 w (by omega)
  have dl : decide ((65536 : Int) < (n : Int)) = false := decide_eq_false (by omega)
  have f0 : decide (b1 < (-1 : Int)) = false := decide_eq_false (by omega)
  have f1 : decide ((1073741824 : Int) < b1) = false := decide_eq_false (by omega)
  have f2 : decide (b2 < (-1 : Int)) = false := decide_eq_false (by omega)
  have f3 : decide ((1073741824 : Int) < b2) = false := decide_eq_false (by omega)
  have f4 : decide (b2 < b1) = false := decide_eq_false (by omega)
  have t5 : decide (d1 < d2) = true := decide_eq_true (by omega)
  go_enter Try.func4, Try.ntmps4
  go_wp2_with fail
  refine (B _).mono ?_
  rintro e w1 ⟨rfl, hw1⟩
  cases hw1
  clear B
  go_wp2
  go_ret
  exact ⟨rfl, Below.refl _ _⟩

set_option maxHeartbeats 2000000 in
theorem walk_main (a0 : Option Addr) (n c : Nat) (l : List Int) (b1 b2 d1 d2 : Int) (w : World) (hs : Sl .u16 w a0 n c l) (h : n ≤ 65536) (g0 : ¬ b1 < (-1 : Int)) (g1 : ¬ (1073741824 : Int) < b1) (g2 : ¬ b2 < (-1 : Int)) (g3 : ¬ (1073741824 : Int) < b2) (g4 : ¬ b2 < b1) (g5 : ¬ d1 < d2) :
    Calls Try.prog 4 #[.slice a0 n c, .int .i64 b1, .int .i64 b2, .int .i64 d1, .int .i64 d2] w fun e w' => e = .returned (.bool true) ∧ Below w.heap.size w w' := by
  have B := fun w => bytes12_yes a0 n c b1 b2 d1 d2 w (by omega)
  have dl : decide ((65536 : Int) < (n : Int)) = false := decide_eq_false (by omega)
  have f0 : decide (b1 < (-1 : Int)) = false := decide_eq_false (by omega)
  have f1 : decide ((1073741824 : Int) < b1) = false := decide_eq_false (by omega)
  have f2 : decide (b2 < (-1 : Int)) = false := decide_eq_false (by omega)
  have f3 : decide ((1073741824 : Int) < b2) = false := decide_eq_false (by omega)
  have f4 : decide (b2 < b1) = false := decide_eq_false (by omega)
  have f5 : decide (d1 < d2) = false := decide_eq_false (by omega)
  have HLN : Hid (l.length = n) := hs.len
  go_enter Try.func4, Try.ntmps4
  go_wp2_with fail
  refine (B _).mono ?_
  rintro e w1 ⟨rfl, hw1⟩
  cases hw1
  clear B
  go_wp2_with fail
  refine (clone8_row _ n c l _ (by omega) hs).mono ?_
  rintro e w1 ⟨a', c', rfl, hb1, s1⟩
  go_wp2_with fail
  refine (tree10 a' n c' l _ h s1).mono ?_
  rintro e w2 ⟨⟨tv, hh, rfl, ht, t1, t2, -⟩, k2⟩
  obtain ⟨g, cap, rfl, hcap⟩ := ht.form
  have bel2 := hb1.trans (k2.below hb1.size (fun _ h => h.elim))
  go_wp2_with fail
  refine (after9 _ g hh cap l b1 d1 _ (by rw [HLN.out]; exact h) ht t1 t2 (by omega) (by omega)).mono ?_
  rintro e w3 ⟨⟨r1, rfl, hr1⟩, k3⟩
  have ht3 := ht.kept k3 (fun _ h => h.elim) (fun _ _ _ _ h => h)
  have sz2 := Nat.le_trans hb1.size k2.size
  have bel3 := bel2.trans (k3.below sz2 (fun _ h => h.elim))
  go_wp2_with fail
  refine (after9 _ g hh cap l b2 d2 _ (by rw [HLN.out]; exact h) ht3 t1 t2 (by omega) (by omega)).mono ?_
  rintro e w4 ⟨⟨r2, rfl, hr2⟩, k4⟩
  have HB : Hid (Below w.heap.size w w4) := bel3.trans (k4.below (Nat.le_trans sz2 k3.size) (fun _ h => h.elim))
  have hln := HLN.out
  have key : r2 = -1 ∨ r1 ≠ -1 ∧ r1 ≤ r2 := no_later (by omega) (by omega) hr1 hr2
  have key1 := hr1.ge
  have key2 := hr2.ge
  rw [hln] at key1 key2
  clear hr1 hr2 s1 bel2 bel3 hb1 k2 k3 k4 ht ht3 hs hln sz2
  clear f0 f1 f2 f3 f4 f5 dl
  by_cases z2 : r2 = -1
  · subst z2
    clear key key2
    rcases key1 with rfl | ⟨p1, p2, p3⟩
    · go_wp2
      go_ret
      exact ⟨by first | rfl | simp, HB.out⟩
    · have e1 : (r1 != -1) = true := by simp; omega
      have e2 : decide (r1 ≤ b1) = false := decide_eq_false (by omega)
      have e3 : decide ((n : Int) ≤ r1) = false := decide_eq_false (by omega)
      go_wp2
      go_ret
      exact ⟨by first | rfl | simp, HB.out⟩
  · have hr1 : r1 ≠ -1 ∧ r1 ≤ r2 := by rcases key with k | k; exact absurd k z2; exact k
    obtain ⟨p1, p2, p3⟩ : b1 < r1 ∧ 0 ≤ r1 ∧ r1 < n := by rcases key1 with k | k; exact absurd k hr1.1; exact k
    obtain ⟨q1, q2, q3⟩ : b2 < r2 ∧ 0 ≤ r2 ∧ r2 < n := by rcases key2 with k | k; exact absurd k z2; exact k
    obtain ⟨-, hle⟩ := hr1
    have e1 : (r1 != -1) = true := by simp; omega
    have e2 : decide (r1 ≤ b1) = false := decide_eq_false (by omega)
    have e3 : decide ((n : Int) ≤ r1) = false := decide_eq_false (by omega)
    have e4 : (r2 != -1) = true := by simp; omega
    have e5 : decide (r2 ≤ b2) = false := decide_eq_false (by omega)
    have e6 : decide ((n : Int) ≤ r2) = false := decide_eq_false (by omega)
    have e7 : (r2 == -1) = false := by simp; omega
    have e8 : decide (r1 ≤ r2) = true := decide_eq_true hle
    clear key key1 key2 z2
    go_wp2
    go_ret
    exact ⟨by first | rfl | simp, HB.out⟩

theorem walk (a0 : Option Addr) (len0 cap0 : Nat) (z0 : List Int) (a1 : Int) (a2 : Int) (a3 : Int) (a4 : Int) (w : World) (w0 : IsRow .u16 w a0 len0 cap0 z0) (w1 : (Lit.int .i64 a1).wf = true) (w2 : (Lit.int .i64 a2).wf = true) (w3 : (Lit.int .i64 a3).wf = true) (w4 : (Lit.int .i64 a4).wf = true) :
    Calls Try.prog 4 #[.slice a0 len0 cap0, .int .i64 a1, .int .i64 a2, .int .i64 a3, .int .i64 a4] w fun e w' => e = .returned (.bool true) ∧ Below w.heap.size w w' := by
  by_cases h1 : len0 ≤ 1048576
  · by_cases h2 : len0 ≤ 65536
    · by_cases g0 : a1 < -1
      · exact walk_out0 _ _ _ _ _ _ _ w h2 g0
      by_cases g1 : 1073741824 < a1
      · exact walk_out1 _ _ _ _ _ _ _ w h2 g0 g1
      by_cases g2 : a2 < -1
      · exact walk_out2 _ _ _ _ _ _ _ w h2 g0 g1 g2
      by_cases g3 : 1073741824 < a2
      · exact walk_out3 _ _ _ _ _ _ _ w h2 g0 g1 g2 g3
      by_cases g4 : a2 < a1
      · exact walk_out4 _ _ _ _ _ _ _ w h2 g0 g1 g2 g3 g4
      by_cases g5 : a3 < a4
      · exact walk_out5 _ _ _ _ _ _ _ w h2 g0 g1 g2 g3 g4 g5
      exact walk_main _ _ _ _ _ _ _ _ w (sl_of w0) h2 g0 g1 g2 g3 g4 g5
    · exact walk_long _ _ _ _ _ _ _ w h1 (by omega)
  · exact walk_big _ _ _ _ _ _ _ w h1

/-! ### THE ROW's STEP: WRITTEN OUT: LEAVE IT -/
set_option maxRecDepth 100000 in
theorem lifted (os : Os) (started : os.Started) (H : Type) (enc : TypeId × Value → H) :
    ReturnsInHanded {} Try.checked os 4 .any (Rows.fnBlockAfterNoLaterFromEarlierOrDeeperSpec.pre6 enc Try.prog Try.f4 Rows.fnBlockAfterNoLaterFromEarlierOrDeeperRow.domain false) (Rows.fnBlockAfterNoLaterFromEarlierOrDeeperSpec.post enc Try.prog Try.f4 false true false false) := by
  refine returnsInHanded_of_change (C := Try.checked) own started (by kernel_rfl) Try.func4
    (ChangeSpec.witness6 (enc := enc) (C := Try.checked) false ⟨#[], #[.slice none 0 0, .int .i64 0, .int .i64 0, .int .i64 0, .int .i64 0], []⟩ 8 (by kernel_rfl) (by kernel_rfl) (by kernel_rfl) (by kernel_rfl)) ?_
  intro W base args ds gs before hval0 hW hcnd _
  have hval : ∀ (j : Nat) t v, Try.f4.params[j]? = some t → args[j]? = some v → Value.okWide Try.prog W .any base t v := hval0
  have hW' := hW
  obtain ⟨p, q, hA0, hV, rfl, hfz, hnd⟩ := hW
  have hA : DataW.TrodAll enc Try.prog W 0 (fun _ => true) true Try.f4.params.toList args.toList ds p := hA0
  rw [Try.params4] at hA hval
  obtain ⟨v0, vs0, d0, ds0, p0, q0, hargs, rfl, rfl, h0, r0⟩ := trodAll_cons hA
  obtain ⟨v1, vs1, d1, ds1, p1, q1, rfl, rfl, rfl, h1, r1⟩ := trodAll_cons r0
  obtain ⟨v2, vs2, d2, ds2, p2, q2, rfl, rfl, rfl, h2, r2⟩ := trodAll_cons r1
  obtain ⟨v3, vs3, d3, ds3, p3, q3, rfl, rfl, rfl, h3, r3⟩ := trodAll_cons r2
  obtain ⟨v4, vs4, d4, ds4, p4, q4, rfl, rfl, rfl, h4, r4⟩ := trodAll_cons r3
  obtain ⟨rfl, rfl, rfl⟩ := trodAll_nil r4
  obtain rfl : args = #[v0, v1, v2, v3, v4] := by cases args; simp_all
  obtain ⟨rfl, rfl⟩ := trodVars_none hV
  obtain ⟨a0, len0, cap0, rfl⟩ := okWide_slice Try.underlying22 (hval 0 22 v0 rfl rfl)
  have k0 := h0
  have lt0 : ∀ x ∈ p0, x.block < W.heap.size := by obtain ⟨m, hm⟩ := k0; exact DataW.trod_lt m _ _ _ hm
  obtain ⟨z0, w0⟩ : ∃ zs, IsRow .u16 W a0 len0 cap0 zs := by
    obtain ⟨fuel, hf⟩ := h0
    rcases open_ints Try.underlying22 Try.underlying31 (by kernel_rfl) hf with ⟨hcs, _⟩ | ⟨x, l, c, zs, hcs, _, hl, hm, hz, _, hcell, hwz⟩
    · simp [Value.cells] at hcs
      obtain ⟨rfl, rfl, rfl⟩ := hcs
      exact ⟨[], .inl ⟨rfl, rfl, rfl, rfl⟩⟩
    · simp [Value.cells] at hcs
      obtain ⟨rfl, rfl, rfl⟩ := hcs
      exact ⟨zs, .inr ⟨_, rfl, hl, hm, by simpa using hz, hcell, hwz⟩⟩
  obtain ⟨a1, rfl, rfl, rfl, w1⟩ := open_int Try.underlying3 (hval 1 3 v1 rfl rfl) h1
  obtain ⟨a2, rfl, rfl, rfl, w2⟩ := open_int Try.underlying3 (hval 2 3 v2 rfl rfl) h2
  obtain ⟨a3, rfl, rfl, rfl, w3⟩ := open_int Try.underlying3 (hval 3 3 v3 rfl rfl) h3
  obtain ⟨a4, rfl, rfl, rfl, w4⟩ := open_int Try.underlying3 (hval 4 3 v4 rfl rfl) h4
  clear hA0 hval0
  refine (walk a0 len0 cap0 z0 a1 a2 a3 a4 W w0 w1 w2 w3 w4).mono fun e W' ⟨he, bel⟩ => ?_
  subst he
  exact ⟨_, rfl, _, _, _, [], _, [], hW', trodAll_mk1 (shut_bool Try.underlying4 _), (trodAll_cons_mk (Below.trod laidOut (by kernel_rfl) (of_decide_eq_true (by kernel_rfl)) k0 bel lt0) (trodAll_cons_mk (shut_int Try.underlying3 w1) (trodAll_cons_mk (shut_int Try.underlying3 w2) (trodAll_cons_mk (shut_int Try.underlying3 w3) (trodAll_cons_mk (shut_int Try.underlying3 w4) trodAll_mk0))))), rfl, bel.frame _, fun h => by cases h⟩

theorem over : Rows.fnBlockAfterNoLaterFromEarlierOrDeeperRow.holds Try.pinned (OpenSpec.ofChange Rows.fnBlockAfterNoLaterFromEarlierOrDeeperSpec) :=
  OpenClaim.holds_of_wide 4 Try.f4 rfl rfl rfl rfl rfl rfl rfl ⟨rfl, rfl, rfl, rfl, rfl⟩ rfl rfl rfl rfl rfl (by kernel_rfl) Try.func4 (by kernel_rfl)
    (of_decide_eq_true (by kernel_rfl)) (by unfold Func.isWrapper; first | (rw [if_pos (by decide +kernel)]; kernel_rfl) | (rw [if_neg (by decide +kernel)]; exact ⟨rfl, rfl⟩))
    (fun os started H enc _ => lifted os started H enc)

/-- ████ THE STATEMENT ████ -/
theorem proved : Rows.FnBlockAfterNoLaterFromEarlierOrDeeperSaid := over
#print axioms proved
end Go.Proofs.Qxb6600532a.fnBlockAfterNoLaterFromEarlierOrDeeper
