/-
  The proof of Rows.FnBlockAfterIsFirstReachingBlockSaid, in the shell that came with the seat.
-/
import Derived.Test.Qxb6600532aRows
import Derived.Test.Qxb6600532aAfter
import Derived.WalkKit
import Derived.ProofKit
import Derived.OpenShut
import Derived.ShutString
import Derived.ChangeOld
import Derived.Below
namespace Go.Proofs.Qxb6600532a.fnBlockAfterIsFirstReachingBlock
open Go.ChangeShapes Go.WideShapes Go.ChangeAt Go.RowKit
open Go.ChangeMaps (open_string shut_string)
set_option linter.unusedVariables false

theorem own : ownKnob Try.prog.godebug = none := by kernel_rfl
theorem laidOut : laidOutB Try.prog = true := by kernel_rfl

/-- WHAT THE WALK IS TOLD OF A SLICE OF INTEGERS THAT CAME IN: it is nil; or it leads to a row of 'cap' cells, the numbers 'zs' (the first 'len' are its elements, the rest its spare room), each fitting its kind. -/
def IsRow (k : IntKind) (w : World) (a : Option Addr) (len cap : Nat) (zs : List Int) : Prop :=
  (a = none ∧ len = 0 ∧ cap = 0 ∧ zs = []) ∨
  ∃ x, a = some x ∧ len ≤ cap ∧ cap ≤ maxLen ∧ zs.length = cap ∧ (∀ i, i < zs.length → w.cell? (x.add i) = some (.int k (zs.getD i 0))) ∧ ∀ n ∈ zs, (Lit.int k n).wf = true

/-- From the shell's words to ours. -/
theorem sl_of {k : IntKind} {w : World} {a : Option Addr} {len cap : Nat} {zs : List Int} (h : IsRow k w a len cap zs) : Sl k w a len cap (zs.take len) := by
  rcases h with ⟨rfl, rfl, rfl, rfl⟩ | ⟨x, rfl, hl, hm, hz, hc, hw⟩
  · exact ⟨rfl, Nat.le_refl _, by decide, fun _ => ⟨rfl, rfl⟩, fun h => absurd h (by omega), by simp⟩
  · refine ⟨by simp; omega, hl, hm, fun e => by simp at e, fun h0 => ?_, fun n hn => hw n (List.mem_of_mem_take hn)⟩
    obtain ⟨b, off, spot⟩ := x
    have hspot : spot = none := by simpa [Addr.add] using World.cell?_spot (hc 0 (by omega))
    subst hspot
    refine ⟨b, off, rfl, fun i hi => ?_⟩
    rw [← add_plain, hc i (by omega)]
    have h1 : i < zs.length := by omega
    simp [List.getElem?_eq_getElem h1, hi]

set_option maxHeartbeats 1000000 in
theorem walk_big (a0 : Option Addr) (n c : Nat) (b d : Int) (w : World) (h : ¬ n ≤ 1048576) :
    Calls Try.prog 3 #[.slice a0 n c, .int .i64 b, .int .i64 d] w fun e w' => e = .returned (.bool true) ∧ Below w.heap.size w w' := by
  have B := fun w => bytes7_no a0 n c b d w (by omega)
  go_enter Try.func3, Try.ntmps3
  go_wp2_with fail
  refine (B _).mono ?_
  rintro e w1 ⟨rfl, hw1⟩
  cases hw1
  clear B
  go_wp2
  go_ret
  exact ⟨rfl, Below.refl _ _⟩

set_option maxHeartbeats 1000000 in
theorem walk_long (a0 : Option Addr) (n c : Nat) (b d : Int) (w : World) (h : n ≤ 1048576) (h2 : 65536 < n) :
    Calls Try.prog 3 #[.slice a0 n c, .int .i64 b, .int .i64 d] w fun e w' => e = .returned (.bool true) ∧ Below w.heap.size w w' := by
  have B := fun w => bytes7_yes a0 n c b d w (by omega)
  have dl : (65536 : Int) < (n : Int) := by omega
  go_enter Try.func3, Try.ntmps3
  go_wp2_with fail
  refine (B _).mono ?_
  rintro e w1 ⟨rfl, hw1⟩
  cases hw1
  clear B
  go_wp2
  go_ret
  exact ⟨rfl, Below.refl _ _⟩

set_option maxHeartbeats 1000000 in
theorem walk_low (a0 : Option Addr) (n c : Nat) (b d : Int) (w : World) (h : n ≤ 65536) (h2 : b < -1) :
    Calls Try.prog 3 #[.slice a0 n c, .int .i64 b, .int .i64 d] w fun e w' => e = .returned (.bool true) ∧ Below w.heap.size w w' := by
  have B := fun w => bytes7_yes a0 n c b d w (by omega)
  have dl : decide ((65536 : Int) < (n : Int)) = false := decide_eq_false (by omega)
  have d1 : decide (b < (-1 : Int)) = true := decide_eq_true h2
  go_enter Try.func3, Try.ntmps3
  go_wp2_with fail
  refine (B _).mono ?_
  rintro e w1 ⟨rfl, hw1⟩
  cases hw1
  clear B
  go_wp2
  go_ret
  exact ⟨rfl, Below.refl _ _⟩

set_option maxHeartbeats 1000000 in
theorem walk_high (a0 : Option Addr) (n c : Nat) (b d : Int) (w : World) (h : n ≤ 65536) (h1 : ¬ b < -1) (h2 : 1073741824 < b) :
    Calls Try.prog 3 #[.slice a0 n c, .int .i64 b, .int .i64 d] w fun e w' => e = .returned (.bool true) ∧ Below w.heap.size w w' := by
  have B := fun w => bytes7_yes a0 n c b d w (by omega)
  have dl : decide ((65536 : Int) < (n : Int)) = false := decide_eq_false (by omega)
  have d1 : decide (b < (-1 : Int)) = false := decide_eq_false h1
  have d2 : decide ((1073741824 : Int) < b) = true := decide_eq_true h2
  go_enter Try.func3, Try.ntmps3
  go_wp2_with fail
  refine (B _).mono ?_
  rintro e w1 ⟨rfl, hw1⟩
  cases hw1
  clear B
  go_wp2
  go_ret
  exact ⟨rfl, Below.refl _ _⟩

set_option maxHeartbeats 2000000 in
theorem walk_main (a0 : Option Addr) (n c : Nat) (l : List Int) (b d : Int) (w : World) (hs : Sl .u16 w a0 n c l) (h : n ≤ 65536) (h1 : ¬ b < -1) (h2 : ¬ 1073741824 < b) :
    Calls Try.prog 3 #[.slice a0 n c, .int .i64 b, .int .i64 d] w fun e w' => e = .returned (.bool true) ∧ Below w.heap.size w w' := by
  have B := fun w => bytes7_yes a0 n c b d w (by omega)
  have dl : decide ((65536 : Int) < (n : Int)) = false := decide_eq_false (by omega)
  have d1 : decide (b < (-1 : Int)) = false := decide_eq_false h1
  have d2 : decide ((1073741824 : Int) < b) = false := decide_eq_false h2
  have HLN : Hid (l.length = n) := hs.len
  go_enter Try.func3, Try.ntmps3
  go_wp2_with fail
  refine (B _).mono ?_
  rintro e w1 ⟨rfl, hw1⟩
  cases hw1
  clear B
  go_wp2_with fail
  refine (clone8_row _ n c l _ (by omega) hs).mono ?_
  rintro e w1 ⟨a', c', rfl, hb1, s1⟩
  go_wp2_with fail
  refine (tree10 a' n c' l _ h s1).mono ?_
  rintro e w2 ⟨⟨tv, hh, rfl, ht, t1, t2, -⟩, k2⟩
  obtain ⟨g, cap, rfl, hcap⟩ := ht.form
  have s2 := s1.kept k2 (fun _ _ _ _ h => h)
  have bel2 := hb1.trans (k2.below hb1.size (fun _ h => h.elim))
  go_wp2_with fail
  refine (after9 _ g hh cap l b d _ (by rw [HLN.out]; exact h) ht t1 t2 (by omega) (by omega)).mono ?_
  rintro e w3 ⟨⟨r, rfl, hr⟩, k3⟩
  have s3 := s2.kept k3 (fun _ _ _ _ h => h)
  have bel3 := bel2.trans (k3.below (Nat.le_trans hb1.size k2.size) (fun _ h => h.elim))
  go_wp2_with fail
  refine (first11 a' n c' l b d _ h s3.1).mono ?_
  rintro e w4 ⟨⟨r', rfl, hr'⟩, hw⟩
  cases hw
  obtain rfl := FR.unique hr hr'
  have HB : Hid (Below w.heap.size w w3) := bel3
  clear hr hr' s1 s2 s3 bel2 bel3 hb1 k2 k3 ht hs
  go_wp2
  go_ret
  exact ⟨by simp, HB.out⟩

theorem walk (a0 : Option Addr) (len0 cap0 : Nat) (z0 : List Int) (a1 : Int) (a2 : Int) (w : World) (w0 : IsRow .u16 w a0 len0 cap0 z0) (w1 : (Lit.int .i64 a1).wf = true) (w2 : (Lit.int .i64 a2).wf = true) :
    Calls Try.prog 3 #[.slice a0 len0 cap0, .int .i64 a1, .int .i64 a2] w fun e w' => e = .returned (.bool true) ∧ Below w.heap.size w w' := by
  by_cases h1 : len0 ≤ 1048576
  · by_cases h2 : len0 ≤ 65536
    · by_cases h3 : a1 < -1
      · exact walk_low _ _ _ _ _ w h2 h3
      · by_cases h4 : 1073741824 < a1
        · exact walk_high _ _ _ _ _ w h2 h3 h4
        · exact walk_main _ _ _ _ _ _ w (sl_of w0) h2 h3 h4
    · exact walk_long _ _ _ _ _ w h1 (by omega)
  · exact walk_big _ _ _ _ _ w h1

/-! ### THE ROW's STEP: WRITTEN OUT: LEAVE IT -/
set_option maxRecDepth 100000 in
theorem lifted (os : Os) (started : os.Started) (H : Type) (enc : TypeId × Value → H) :
    ReturnsInHanded {} Try.checked os 3 .any (Rows.fnBlockAfterIsFirstReachingBlockSpec.pre6 enc Try.prog Try.f3 Rows.fnBlockAfterIsFirstReachingBlockRow.domain false) (Rows.fnBlockAfterIsFirstReachingBlockSpec.post enc Try.prog Try.f3 false true false false) := by
  refine returnsInHanded_of_change (C := Try.checked) own started (by kernel_rfl) Try.func3
    (ChangeSpec.witness6 (enc := enc) (C := Try.checked) false ⟨#[], #[.slice none 0 0, .int .i64 0, .int .i64 0], []⟩ 8 (by kernel_rfl) (by kernel_rfl) (by kernel_rfl) (by kernel_rfl)) ?_
  intro W base args ds gs before hval0 hW hcnd _
  have hval : ∀ (j : Nat) t v, Try.f3.params[j]? = some t → args[j]? = some v → Value.okWide Try.prog W .any base t v := hval0
  have hW' := hW
  obtain ⟨p, q, hA0, hV, rfl, hfz, hnd⟩ := hW
  have hA : DataW.TrodAll enc Try.prog W 0 (fun _ => true) true Try.f3.params.toList args.toList ds p := hA0
  rw [Try.params3] at hA hval
  obtain ⟨v0, vs0, d0, ds0, p0, q0, hargs, rfl, rfl, h0, r0⟩ := trodAll_cons hA
  obtain ⟨v1, vs1, d1, ds1, p1, q1, rfl, rfl, rfl, h1, r1⟩ := trodAll_cons r0
  obtain ⟨v2, vs2, d2, ds2, p2, q2, rfl, rfl, rfl, h2, r2⟩ := trodAll_cons r1
  obtain ⟨rfl, rfl, rfl⟩ := trodAll_nil r2
  obtain rfl : args = #[v0, v1, v2] := by cases args; simp_all
  obtain ⟨rfl, rfl⟩ := trodVars_none hV
  obtain ⟨a0, len0, cap0, rfl⟩ := okWide_slice Try.underlying22 (hval 0 22 v0 rfl rfl)
  have k0 := h0
  have lt0 : ∀ x ∈ p0, x.block < W.heap.size := by obtain ⟨m, hm⟩ := k0; exact DataW.trod_lt m _ _ _ hm
  obtain ⟨z0, w0⟩ : ∃ zs, IsRow .u16 W a0 len0 cap0 zs := by
    obtain ⟨fuel, hf⟩ := h0
    rcases open_ints Try.underlying22 Try.underlying31 (by kernel_rfl) hf with ⟨hcs, _⟩ | ⟨x, l, c, zs, hcs, _, hl, hm, hz, _, hcell, hwz⟩
    · simp [Value.cells] at hcs
      obtain ⟨rfl, rfl, rfl⟩ := hcs
      exact ⟨[], .inl ⟨rfl, rfl, rfl, rfl⟩⟩
    · simp [Value.cells] at hcs
      obtain ⟨rfl, rfl, rfl⟩ := hcs
      exact ⟨zs, .inr ⟨_, rfl, hl, hm, by simpa using hz, hcell, hwz⟩⟩
  obtain ⟨a1, rfl, rfl, rfl, w1⟩ := open_int Try.underlying3 (hval 1 3 v1 rfl rfl) h1
  obtain ⟨a2, rfl, rfl, rfl, w2⟩ := open_int Try.underlying3 (hval 2 3 v2 rfl rfl) h2
  clear hA0 hval0
  refine (walk a0 len0 cap0 z0 a1 a2 W w0 w1 w2).mono fun e W' ⟨he, bel⟩ => ?_
  subst he
  exact ⟨_, rfl, _, _, _, [], _, [], hW', trodAll_mk1 (shut_bool Try.underlying4 _), (trodAll_cons_mk (Below.trod laidOut (by kernel_rfl) (of_decide_eq_true (by kernel_rfl)) k0 bel lt0) (trodAll_cons_mk (shut_int Try.underlying3 w1) (trodAll_cons_mk (shut_int Try.underlying3 w2) trodAll_mk0))), rfl, bel.frame _, fun h => by cases h⟩

theorem over : Rows.fnBlockAfterIsFirstReachingBlockRow.holds Try.pinned (OpenSpec.ofChange Rows.fnBlockAfterIsFirstReachingBlockSpec) :=
  OpenClaim.holds_of_wide 3 Try.f3 rfl rfl rfl rfl rfl rfl rfl ⟨rfl, rfl, rfl, rfl, rfl⟩ rfl rfl rfl rfl rfl (by kernel_rfl) Try.func3 (by kernel_rfl)
    (of_decide_eq_true (by kernel_rfl)) (by unfold Func.isWrapper; first | (rw [if_pos (by decide +kernel)]; kernel_rfl) | (rw [if_neg (by decide +kernel)]; exact ⟨rfl, rfl⟩))
    (fun os started H enc _ => lifted os started H enc)

/-- ████ THE STATEMENT ████ -/
theorem proved : Rows.FnBlockAfterIsFirstReachingBlockSaid := over
#print axioms proved
end Go.Proofs.Qxb6600532a.fnBlockAfterIsFirstReachingBlock
