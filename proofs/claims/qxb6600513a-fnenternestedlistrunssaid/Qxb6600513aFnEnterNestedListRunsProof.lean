/-
  The proof of Rows.FnEnterNestedListRunsSaid, in the shell that came with the seat.
-/
import Derived.Test.Qxb6600513aRows
import Derived.Test.Qxb6600513aNestZero
import Derived.Test.Qxb6600513aNestOne
import Derived.Test.Qxb6600513aNestNegOne
import Derived.Test.Qxb6600513aNestLong
import Derived.WalkKit
import Derived.ProofKit
import Derived.OpenShut
import Derived.ShutString
import Derived.ChangeOld
import Derived.Below
namespace Go.Proofs.Qxb6600513a.fnEnterNestedListRuns
open Go.ChangeShapes Go.WideShapes Go.ChangeAt Go.RowKit
open Go.ChangeMaps (open_string shut_string)
set_option linter.unusedVariables false

theorem own : ownKnob Try.prog.godebug = none := by kernel_rfl
theorem laidOut : laidOutB Try.prog = true := by kernel_rfl

/-- WHAT THE WALK IS TOLD OF A SLICE OF INTEGERS THAT CAME IN: it is nil; or it leads to a row of 'cap' cells, the numbers 'zs' (the first 'len' are its elements, the rest its spare room), each fitting its kind. -/
def IsRow (k : IntKind) (w : World) (a : Option Addr) (len cap : Nat) (zs : List Int) : Prop :=
  (a = none ∧ len = 0 ∧ cap = 0 ∧ zs = []) ∨
  ∃ x, a = some x ∧ len ≤ cap ∧ cap ≤ maxLen ∧ zs.length = cap ∧ (∀ i, i < zs.length → w.cell? (x.add i) = some (.int k (zs.getD i 0))) ∧ ∀ n ∈ zs, (Lit.int k n).wf = true

/-- From the shell's words to ours. -/
theorem sl_of {k : IntKind} {w : World} {a : Option Addr} {len cap : Nat} {zs : List Int} (h : IsRow k w a len cap zs) : Sl k w a len cap (zs.take len) := by
  rcases h with ⟨rfl, rfl, rfl, rfl⟩ | ⟨x, rfl, hl, hm, hz, hc, hw⟩
  · exact ⟨rfl, Nat.le_refl _, by decide, fun _ => ⟨rfl, rfl⟩, fun h => absurd h (by omega), by simp⟩
  · refine ⟨by simp; omega, hl, hm, fun e => by simp at e, fun h0 => ?_, fun n hn => hw n (List.mem_of_mem_take hn)⟩
    obtain ⟨b, off, spot⟩ := x
    have hspot : spot = none := by simpa [Addr.add] using World.cell?_spot (hc 0 (by omega))
    subst hspot
    refine ⟨b, off, rfl, fun i hi => ?_⟩
    rw [← add_plain, hc i (by omega)]
    have h1 : i < zs.length := by omega
    simp [List.getElem?_eq_getElem h1, hi]

set_option maxRecDepth 100000 in
set_option maxHeartbeats 1000000 in
theorem walk_big (a0 : Option Addr) (n0 c0 : Nat) (x1 x2 x3 : Int) (w : World) (h : ¬ n0 ≤ 1048576) :
    Calls Try.prog 6 #[.slice a0 n0 c0, .int .i64 x1, .int .i64 x2, .int .i64 x3] w fun e w' => e = .returned (.bool true) ∧ Below w.heap.size w w' := by
  have B := fun w => bytes30_no a0 n0 c0 x1 x2 x3 w h
  clear h
  go_enter Try.func6, Try.ntmps6
  go_wp2_with fail
  refine (B _).mono ?_
  rintro e w1 ⟨rfl, hw1⟩
  cases hw1
  go_wp2
  go_ret
  exact ⟨rfl, Below.refl _ _⟩

set_option maxRecDepth 100000 in
set_option maxHeartbeats 1000000 in
theorem walk_long (a0 : Option Addr) (n0 c0 : Nat) (x1 x2 x3 : Int) (w : World) (h : n0 ≤ 1048576) (h2 : 65536 < n0) :
    Calls Try.prog 6 #[.slice a0 n0 c0, .int .i64 x1, .int .i64 x2, .int .i64 x3] w fun e w' => e = .returned (.bool true) ∧ Below w.heap.size w w' := by
  have B := fun w => bytes30_yes a0 n0 c0 x1 x2 x3 w h
  have d1 : (65536 : Int) < (n0 : Int) := by omega
  clear h h2
  go_enter Try.func6, Try.ntmps6
  go_wp2_with fail
  refine (B _).mono ?_
  rintro e w1 ⟨rfl, hw1⟩
  cases hw1
  go_wp2
  go_ret
  exact ⟨rfl, Below.refl _ _⟩

set_option maxRecDepth 100000 in
set_option maxHeartbeats 1000000 in
theorem walk_out (a0 : Option Addr) (n0 c0 : Nat) (x1 x2 x3 : Int) (w : World) (h : n0 ≤ 65536) (h2 : x1 < 4) :
    Calls Try.prog 6 #[.slice a0 n0 c0, .int .i64 x1, .int .i64 x2, .int .i64 x3] w fun e w' => e = .returned (.bool true) ∧ Below w.heap.size w w' := by
  have B := fun w => bytes30_yes a0 n0 c0 x1 x2 x3 w (by omega)
  have d1 : decide ((65536 : Int) < (n0 : Int)) = false := decide_eq_false (by omega)
  go_enter Try.func6, Try.ntmps6
  go_wp2_with fail
  refine (B _).mono ?_
  rintro e w1 ⟨rfl, hw1⟩
  cases hw1
  go_wp2
  go_ret
  exact ⟨rfl, Below.refl _ _⟩

theorem walk (a0 : Option Addr) (len0 cap0 : Nat) (z0 : List Int) (a1 : Int) (a2 : Int) (a3 : Int) (w : World) (w0 : IsRow .i64 w a0 len0 cap0 z0) (w1 : (Lit.int .i64 a1).wf = true) (w2 : (Lit.int .i64 a2).wf = true) (w3 : (Lit.int .i64 a3).wf = true) :
    Calls Try.prog 6 #[.slice a0 len0 cap0, .int .i64 a1, .int .i64 a2, .int .i64 a3] w fun e w' => e = .returned (.bool true) ∧ Below w.heap.size w w' := by
  have h0 := sl_of w0
  generalize z0.take len0 = l0 at h0
  by_cases hs : len0 ≤ 1048576
  · by_cases hh : 65536 < len0
    · exact walk_long a0 len0 cap0 a1 a2 a3 w hs hh
    · by_cases hr : a1 < 4
      · exact walk_out a0 len0 cap0 a1 a2 a3 w (by omega) hr
      · rcases Nat.eq_zero_or_pos len0 with z | p
        · subst z
          exact nest_zero a0 cap0 a1 a2 a3 l0 w h0 (by omega)
        · by_cases hm : 0 < a3
          · exact nest_posM a0 len0 cap0 a1 a2 a3 l0 w h0 (by omega) p hm (by omega)
          · by_cases h2 : 2 ≤ len0
            · exact nest_negLong a0 len0 cap0 a1 a2 a3 l0 w h0 (by omega) p (by omega) h2 (by omega)
            · exact nest_negOne a0 len0 cap0 a1 a2 a3 l0 w h0 (by omega) p (by omega) (by omega) (by omega)
  · exact walk_big a0 len0 cap0 a1 a2 a3 w hs

/-! ### THE ROW's STEP: WRITTEN OUT: LEAVE IT -/
set_option maxRecDepth 100000 in
theorem lifted (os : Os) (started : os.Started) (H : Type) (enc : TypeId × Value → H) :
    ReturnsInHanded {} Try.checked os 6 .any (Rows.fnEnterNestedListRunsSpec.pre6 enc Try.prog Try.f6 Rows.fnEnterNestedListRunsRow.domain false) (Rows.fnEnterNestedListRunsSpec.post enc Try.prog Try.f6 false true false false) := by
  refine returnsInHanded_of_change (C := Try.checked) own started (by kernel_rfl) Try.func6
    (ChangeSpec.witness6 (enc := enc) (C := Try.checked) false ⟨#[], #[.slice none 0 0, .int .i64 0, .int .i64 0, .int .i64 0], []⟩ 8 (by kernel_rfl) (by kernel_rfl) (by kernel_rfl) (by kernel_rfl)) ?_
  intro W base args ds gs before hval0 hW hcnd _
  have hval : ∀ (j : Nat) t v, Try.f6.params[j]? = some t → args[j]? = some v → Value.okWide Try.prog W .any base t v := hval0
  have hW' := hW
  obtain ⟨p, q, hA0, hV, rfl, hfz, hnd⟩ := hW
  have hA : DataW.TrodAll enc Try.prog W 0 (fun _ => true) true Try.f6.params.toList args.toList ds p := hA0
  rw [Try.params6] at hA hval
  obtain ⟨v0, vs0, d0, ds0, p0, q0, hargs, rfl, rfl, h0, r0⟩ := trodAll_cons hA
  obtain ⟨v1, vs1, d1, ds1, p1, q1, rfl, rfl, rfl, h1, r1⟩ := trodAll_cons r0
  obtain ⟨v2, vs2, d2, ds2, p2, q2, rfl, rfl, rfl, h2, r2⟩ := trodAll_cons r1
  obtain ⟨v3, vs3, d3, ds3, p3, q3, rfl, rfl, rfl, h3, r3⟩ := trodAll_cons r2
  obtain ⟨rfl, rfl, rfl⟩ := trodAll_nil r3
  obtain rfl : args = #[v0, v1, v2, v3] := by cases args; simp_all
  obtain ⟨rfl, rfl⟩ := trodVars_none hV
  obtain ⟨a0, len0, cap0, rfl⟩ := okWide_slice Try.underlying29 (hval 0 29 v0 rfl rfl)
  have k0 := h0
  have lt0 : ∀ x ∈ p0, x.block < W.heap.size := by obtain ⟨m, hm⟩ := k0; exact DataW.trod_lt m _ _ _ hm
  obtain ⟨z0, w0⟩ : ∃ zs, IsRow .i64 W a0 len0 cap0 zs := by
    obtain ⟨fuel, hf⟩ := h0
    rcases open_ints Try.underlying29 Try.underlying3 (by kernel_rfl) hf with ⟨hcs, _⟩ | ⟨x, l, c, zs, hcs, _, hl, hm, hz, _, hcell, hwz⟩
    · simp [Value.cells] at hcs
      obtain ⟨rfl, rfl, rfl⟩ := hcs
      exact ⟨[], .inl ⟨rfl, rfl, rfl, rfl⟩⟩
    · simp [Value.cells] at hcs
      obtain ⟨rfl, rfl, rfl⟩ := hcs
      exact ⟨zs, .inr ⟨_, rfl, hl, hm, by simpa using hz, hcell, hwz⟩⟩
  obtain ⟨a1, rfl, rfl, rfl, w1⟩ := open_int Try.underlying3 (hval 1 3 v1 rfl rfl) h1
  obtain ⟨a2, rfl, rfl, rfl, w2⟩ := open_int Try.underlying3 (hval 2 3 v2 rfl rfl) h2
  obtain ⟨a3, rfl, rfl, rfl, w3⟩ := open_int Try.underlying3 (hval 3 3 v3 rfl rfl) h3
  clear hA0 hval0
  refine (walk a0 len0 cap0 z0 a1 a2 a3 W w0 w1 w2 w3).mono fun e W' ⟨he, bel⟩ => ?_
  subst he
  exact ⟨_, rfl, _, _, _, [], _, [], hW', trodAll_mk1 (shut_bool Try.underlying4 _), (trodAll_cons_mk (Below.trod laidOut (by kernel_rfl) (of_decide_eq_true (by kernel_rfl)) k0 bel lt0) (trodAll_cons_mk (shut_int Try.underlying3 w1) (trodAll_cons_mk (shut_int Try.underlying3 w2) (trodAll_cons_mk (shut_int Try.underlying3 w3) trodAll_mk0)))), rfl, bel.frame _, fun h => by cases h⟩

theorem over : Rows.fnEnterNestedListRunsRow.holds Try.pinned (OpenSpec.ofChange Rows.fnEnterNestedListRunsSpec) :=
  OpenClaim.holds_of_wide 6 Try.f6 rfl rfl rfl rfl rfl rfl rfl ⟨rfl, rfl, rfl, rfl, rfl⟩ rfl rfl rfl rfl rfl (by kernel_rfl) Try.func6 (by kernel_rfl)
    (of_decide_eq_true (by kernel_rfl)) (by unfold Func.isWrapper; first | (rw [if_pos (by decide +kernel)]; kernel_rfl) | (rw [if_neg (by decide +kernel)]; exact ⟨rfl, rfl⟩))
    (fun os started H enc _ => lifted os started H enc)

/-- ████ THE STATEMENT ████ -/
theorem proved : Rows.FnEnterNestedListRunsSaid := over
#print axioms proved
end Go.Proofs.Qxb6600513a.fnEnterNestedListRuns
