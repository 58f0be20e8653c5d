/-
  The proof of Rows.FnLineBreaksClosedFormSaid, in the shell that came with the seat.
-/
import Derived.Test.Qxb6600513aRows
import Derived.Test.Qxb6600513aParts
import Derived.Test.Qxb6600513aLines9
import Derived.Test.Qxb6600513aCount
import Derived.WalkKit
import Derived.ProofKit
import Derived.OpenShut
import Derived.ShutString
import Derived.ChangeOld
import Derived.Below
namespace Go.Proofs.Qxb6600513a.fnLineBreaksClosedForm
open Go.ChangeShapes Go.WideShapes Go.ChangeAt Go.RowKit
open Go.ChangeMaps (open_string shut_string)
set_option linter.unusedVariables false

theorem own : ownKnob Try.prog.godebug = none := by kernel_rfl
theorem laidOut : laidOutB Try.prog = true := by kernel_rfl

/-- WHAT THE WALK IS TOLD OF A SLICE OF INTEGERS THAT CAME IN: it is nil; or it leads to a row of 'cap' cells, the numbers 'zs' (the first 'len' are its elements, the rest its spare room), each fitting its kind. -/
def IsRow (k : IntKind) (w : World) (a : Option Addr) (len cap : Nat) (zs : List Int) : Prop :=
  (a = none ∧ len = 0 ∧ cap = 0 ∧ zs = []) ∨
  ∃ x, a = some x ∧ len ≤ cap ∧ cap ≤ maxLen ∧ zs.length = cap ∧ (∀ i, i < zs.length → w.cell? (x.add i) = some (.int k (zs.getD i 0))) ∧ ∀ n ∈ zs, (Lit.int k n).wf = true

/-- From the shell's words to ours. -/
theorem sl_of {k : IntKind} {w : World} {a : Option Addr} {len cap : Nat} {zs : List Int} (h : IsRow k w a len cap zs) : Sl k w a len cap (zs.take len) := by
  rcases h with ⟨rfl, rfl, rfl, rfl⟩ | ⟨x, rfl, hl, hm, hz, hc, hw⟩
  · exact ⟨rfl, Nat.le_refl _, by decide, fun _ => ⟨rfl, rfl⟩, fun h => absurd h (by omega), by simp⟩
  · refine ⟨by simp; omega, hl, hm, fun e => by simp at e, fun h0 => ?_, fun n hn => hw n (List.mem_of_mem_take hn)⟩
    obtain ⟨b, off, spot⟩ := x
    have hspot : spot = none := by simpa [Addr.add] using World.cell?_spot (hc 0 (by omega))
    subst hspot
    refine ⟨b, off, rfl, fun i hi => ?_⟩
    rw [← add_plain, hc i (by omega)]
    have h1 : i < zs.length := by omega
    simp [List.getElem?_eq_getElem h1, hi]

set_option maxHeartbeats 1000000 in
theorem walk_big (a0 : Option Addr) (n0 c0 : Nat) (w : World) (h : ¬ n0 ≤ 1048576) :
    Calls Try.prog 3 #[.slice a0 n0 c0] w fun e w' => e = .returned (.bool true) ∧ Below w.heap.size w w' := by
  have B := fun w => bytes7_no a0 n0 c0 w h
  clear h
  go_enter Try.func3, Try.ntmps3
  go_wp2_with fail
  refine (B _).mono ?_
  rintro e w1 ⟨rfl, hw1⟩
  cases hw1
  go_wp2
  go_ret
  exact ⟨rfl, Below.refl _ _⟩

set_option maxHeartbeats 1000000 in
theorem walk_main (a0 : Option Addr) (n c0 : Nat) (l : List Int) (w : World) (hn : n ≤ 1048576) (h : Sl .u8 w a0 n c0 l) :
    Calls Try.prog 3 #[.slice a0 n c0] w fun e w' => e = .returned (.bool true) ∧ Below w.heap.size w w' := by
  have B := fun w => bytes7_yes a0 n c0 w hn
  go_enter Try.func3, Try.ntmps3
  go_wp2_with fail
  refine (B _).mono ?_
  rintro e w1 ⟨rfl, hw1⟩
  cases hw1
  clear B
  go_wp2_with fail
  refine (clone8 _ n c0 l _ (by omega) h).mono ?_
  rintro e w1 ⟨a', c', rfl, hb1, s1, -⟩
  go_wp2_with fail
  refine (lineBreaks9 _ n c' l _ s1 (by omega)).mono ?_
  rintro e w2 ⟨rfl, hb2⟩
  have s2 := s1.below hb2
  have H10 : Hid (Calls Try.prog 10 #[.slice a' n c'] w2 fun e w' => e = .returned (.int .i64 (cnt 0 l)) ∧ w' = w2) := count10 _ n c' l _ s2 (by omega)
  have H11 : Hid (Calls Try.prog 11 #[.slice a' n c'] w2 fun e w' => (∃ v : Nat, e = .returned (.int .i64 v) ∧ v + aft 0 l n = n) ∧ w' = w2) := last11 _ n c' l _ s2 (by omega)
  generalize cnt 0 l = x at *
  generalize aft 0 l n = y at *
  clear s2 s1 h
  go_wp2_with fail
  refine H10.out.mono ?_
  rintro e w3 ⟨rfl, hw3⟩
  cases hw3
  go_wp2_with fail
  refine H11.out.mono ?_
  rintro e w3 ⟨⟨v, rfl, hv⟩, hw3⟩
  cases hw3
  have hv1 : v ≤ n := by omega
  have hv2 : ((y : Int) == (n : Int) - (v : Int)) = true := by simp; omega
  clear hv
  go_wp2
  go_ret
  exact ⟨rfl, hb1.trans (hb2.mono hb1.size)⟩

theorem walk (a0 : Option Addr) (len0 cap0 : Nat) (z0 : List Int) (w : World) (w0 : IsRow .u8 w a0 len0 cap0 z0) :
    Calls Try.prog 3 #[.slice a0 len0 cap0] w fun e w' => e = .returned (.bool true) ∧ Below w.heap.size w w' := by
  have h0 := sl_of w0
  by_cases hs : len0 ≤ 1048576
  · exact walk_main a0 len0 cap0 _ w hs h0
  · exact walk_big a0 len0 cap0 w hs

/-! ### THE ROW's STEP: WRITTEN OUT: LEAVE IT -/
set_option maxRecDepth 100000 in
theorem lifted (os : Os) (started : os.Started) (H : Type) (enc : TypeId × Value → H) :
    ReturnsInHanded {} Try.checked os 3 .any (Rows.fnLineBreaksClosedFormSpec.pre6 enc Try.prog Try.f3 Rows.fnLineBreaksClosedFormRow.domain false) (Rows.fnLineBreaksClosedFormSpec.post enc Try.prog Try.f3 false true false false) := by
  refine returnsInHanded_of_change (C := Try.checked) own started (by kernel_rfl) Try.func3
    (ChangeSpec.witness6 (enc := enc) (C := Try.checked) false ⟨#[], #[.slice none 0 0], []⟩ 8 (by kernel_rfl) (by kernel_rfl) (by kernel_rfl) (by kernel_rfl)) ?_
  intro W base args ds gs before hval0 hW hcnd _
  have hval : ∀ (j : Nat) t v, Try.f3.params[j]? = some t → args[j]? = some v → Value.okWide Try.prog W .any base t v := hval0
  have hW' := hW
  obtain ⟨p, q, hA0, hV, rfl, hfz, hnd⟩ := hW
  have hA : DataW.TrodAll enc Try.prog W 0 (fun _ => true) true Try.f3.params.toList args.toList ds p := hA0
  rw [Try.params3] at hA hval
  obtain ⟨v0, vs0, d0, ds0, p0, q0, hargs, rfl, rfl, h0, r0⟩ := trodAll_cons hA
  obtain ⟨rfl, rfl, rfl⟩ := trodAll_nil r0
  obtain rfl : args = #[v0] := by cases args; simp_all
  obtain ⟨rfl, rfl⟩ := trodVars_none hV
  obtain ⟨a0, len0, cap0, rfl⟩ := okWide_slice Try.underlying22 (hval 0 22 v0 rfl rfl)
  have k0 := h0
  have lt0 : ∀ x ∈ p0, x.block < W.heap.size := by obtain ⟨m, hm⟩ := k0; exact DataW.trod_lt m _ _ _ hm
  obtain ⟨z0, w0⟩ : ∃ zs, IsRow .u8 W a0 len0 cap0 zs := by
    obtain ⟨fuel, hf⟩ := h0
    rcases open_ints Try.underlying22 Try.underlying5 (by kernel_rfl) hf with ⟨hcs, _⟩ | ⟨x, l, c, zs, hcs, _, hl, hm, hz, _, hcell, hwz⟩
    · simp [Value.cells] at hcs
      obtain ⟨rfl, rfl, rfl⟩ := hcs
      exact ⟨[], .inl ⟨rfl, rfl, rfl, rfl⟩⟩
    · simp [Value.cells] at hcs
      obtain ⟨rfl, rfl, rfl⟩ := hcs
      exact ⟨zs, .inr ⟨_, rfl, hl, hm, by simpa using hz, hcell, hwz⟩⟩
  clear hA0 hval0
  refine (walk a0 len0 cap0 z0 W w0).mono fun e W' ⟨he, bel⟩ => ?_
  subst he
  exact ⟨_, rfl, _, _, _, [], _, [], hW', trodAll_mk1 (shut_bool Try.underlying4 _), (trodAll_cons_mk (Below.trod laidOut (by kernel_rfl) (of_decide_eq_true (by kernel_rfl)) k0 bel lt0) trodAll_mk0), rfl, bel.frame _, fun h => by cases h⟩

theorem over : Rows.fnLineBreaksClosedFormRow.holds Try.pinned (OpenSpec.ofChange Rows.fnLineBreaksClosedFormSpec) :=
  OpenClaim.holds_of_wide 3 Try.f3 rfl rfl rfl rfl rfl rfl rfl ⟨rfl, rfl, rfl, rfl, rfl⟩ rfl rfl rfl rfl rfl (by kernel_rfl) Try.func3 (by kernel_rfl)
    (of_decide_eq_true (by kernel_rfl)) (by unfold Func.isWrapper; first | (rw [if_pos (by decide +kernel)]; kernel_rfl) | (rw [if_neg (by decide +kernel)]; exact ⟨rfl, rfl⟩))
    (fun os started H enc _ => lifted os started H enc)

/-- ████ THE STATEMENT ████ -/
theorem proved : Rows.FnLineBreaksClosedFormSaid := over
#print axioms proved
end Go.Proofs.Qxb6600513a.fnLineBreaksClosedForm
