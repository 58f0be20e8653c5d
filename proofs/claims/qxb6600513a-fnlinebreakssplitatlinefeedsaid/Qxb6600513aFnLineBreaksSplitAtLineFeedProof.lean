/-
  The proof of Rows.FnLineBreaksSplitAtLineFeedSaid, in the shell that came with the seat.
-/
import Derived.Test.Qxb6600513aRows
import Derived.Test.Qxb6600513aSplitWalk
import Derived.WalkKit
import Derived.ProofKit
import Derived.OpenShut
import Derived.ShutString
import Derived.ChangeOld
import Derived.Below
namespace Go.Proofs.Qxb6600513a.fnLineBreaksSplitAtLineFeed
open Go.ChangeShapes Go.WideShapes Go.ChangeAt Go.RowKit
open Go.ChangeMaps (open_string shut_string)
set_option linter.unusedVariables false

theorem own : ownKnob Try.prog.godebug = none := by kernel_rfl
theorem laidOut : laidOutB Try.prog = true := by kernel_rfl

/-- WHAT THE WALK IS TOLD OF A SLICE OF INTEGERS THAT CAME IN: it is nil; or it leads to a row of 'cap' cells, the numbers 'zs' (the first 'len' are its elements, the rest its spare room), each fitting its kind. -/
def IsRow (k : IntKind) (w : World) (a : Option Addr) (len cap : Nat) (zs : List Int) : Prop :=
  (a = none ∧ len = 0 ∧ cap = 0 ∧ zs = []) ∨
  ∃ x, a = some x ∧ len ≤ cap ∧ cap ≤ maxLen ∧ zs.length = cap ∧ (∀ i, i < zs.length → w.cell? (x.add i) = some (.int k (zs.getD i 0))) ∧ ∀ n ∈ zs, (Lit.int k n).wf = true

/-- From the shell's words to ours. -/
theorem sl_of {k : IntKind} {w : World} {a : Option Addr} {len cap : Nat} {zs : List Int} (h : IsRow k w a len cap zs) : Sl k w a len cap (zs.take len) := by
  rcases h with ⟨rfl, rfl, rfl, rfl⟩ | ⟨x, rfl, hl, hm, hz, hc, hw⟩
  · exact ⟨rfl, Nat.le_refl _, by decide, fun _ => ⟨rfl, rfl⟩, fun h => absurd h (by omega), by simp⟩
  · refine ⟨by simp; omega, hl, hm, fun e => by simp at e, fun h0 => ?_, fun n hn => hw n (List.mem_of_mem_take hn)⟩
    obtain ⟨b, off, spot⟩ := x
    have hspot : spot = none := by simpa [Addr.add] using World.cell?_spot (hc 0 (by omega))
    subst hspot
    refine ⟨b, off, rfl, fun i hi => ?_⟩
    rw [← add_plain, hc i (by omega)]
    have h1 : i < zs.length := by omega
    simp [List.getElem?_eq_getElem h1, hi]

set_option maxHeartbeats 1000000 in
theorem walk_big (a0 a1 : Option Addr) (n0 c0 n1 c1 : Nat) (w : World) (h : ¬ n0 + n1 ≤ 1048576) :
    Calls Try.prog 4 #[.slice a0 n0 c0, .slice a1 n1 c1] w fun e w' => e = .returned (.bool true) ∧ Below w.heap.size w w' := by
  have B12 := fun w => bytes12_no a0 a1 n0 c0 n1 c1 w h
  clear h
  go_enter Try.func4, Try.ntmps4
  go_wp2_with fail
  refine (B12 _).mono ?_
  rintro e w1 ⟨rfl, hw1⟩
  cases hw1
  go_wp2
  go_ret
  exact ⟨rfl, Below.refl _ _⟩

set_option maxHeartbeats 1000000 in
theorem walk_long (a0 a1 : Option Addr) (n0 c0 n1 c1 : Nat) (w : World) (h : n0 + n1 ≤ 1048576) (h2 : ¬ (n0 ≤ 524288 ∧ n1 ≤ 524288)) :
    Calls Try.prog 4 #[.slice a0 n0 c0, .slice a1 n1 c1] w fun e w' => e = .returned (.bool true) ∧ Below w.heap.size w w' := by
  have B12 := fun w => bytes12_yes a0 a1 n0 c0 n1 c1 w h
  by_cases h0 : n0 ≤ 524288
  · have h1 : (524288 : Int) < (n1 : Int) := by omega
    clear h h2
    go_enter Try.func4, Try.ntmps4
    go_wp2_with fail
    refine (B12 _).mono ?_
    rintro e w1 ⟨rfl, hw1⟩
    cases hw1
    go_wp2
    go_ret
    exact ⟨rfl, Below.refl _ _⟩
  · clear h h2
    go_enter Try.func4, Try.ntmps4
    go_wp2_with fail
    refine (B12 _).mono ?_
    rintro e w1 ⟨rfl, hw1⟩
    cases hw1
    go_wp2
    go_ret
    exact ⟨rfl, Below.refl _ _⟩

set_option maxHeartbeats 1000000 in
theorem walk_cr (b off : Nat) (a1 : Option Addr) (n0 c0 n1 c1 : Nat) (w : World) (hn0 : n0 ≤ 524288) (hn1 : n1 ≤ 524288) (hp : 0 < n0) (hc : w.cell? ⟨b, off + (n0 - 1), none⟩ = some (.int .u8 13)) :
    Calls Try.prog 4 #[.slice (some ⟨b, off, none⟩) n0 c0, .slice a1 n1 c1] w fun e w' => e = .returned (.bool true) ∧ Below w.heap.size w w' := by
  have B12 := fun w => bytes12_yes (some ⟨b, off, none⟩) a1 n0 c0 n1 c1 w (by omega)
  go_enter Try.func4, Try.ntmps4
  go_wp2_with fail
  refine (B12 _).mono ?_
  rintro e w1 ⟨rfl, hw1⟩
  cases hw1
  go_wp2
  go_ret
  exact ⟨rfl, Below.refl _ _⟩

theorem walk (a0 : Option Addr) (len0 cap0 : Nat) (z0 : List Int) (a1 : Option Addr) (len1 cap1 : Nat) (z1 : List Int) (w : World) (w0 : IsRow .u8 w a0 len0 cap0 z0) (w1 : IsRow .u8 w a1 len1 cap1 z1) :
    Calls Try.prog 4 #[.slice a0 len0 cap0, .slice a1 len1 cap1] w fun e w' => e = .returned (.bool true) ∧ Below w.heap.size w w' := by
  have h0 := sl_of w0
  have h1 := sl_of w1
  generalize z0.take len0 = l0 at h0
  generalize z1.take len1 = l1 at h1
  by_cases hs : len0 + len1 ≤ 1048576
  · by_cases hh : len0 ≤ 524288 ∧ len1 ≤ 524288
    · obtain ⟨b0, b1⟩ := hh
      rcases Nat.eq_zero_or_pos len0 with z | p
      · subst z
        have HN : Hid (NoCr l0) := NoCr.of_last h0.len (.inl rfl)
        rcases Nat.eq_zero_or_pos len1 with z' | p'
        · subst z'
          exact split4_zz a0 a1 cap0 cap1 l0 l1 w h0 h1 HN
        · exact split4_zp a0 a1 cap0 cap1 len1 l0 l1 w h0 h1 p' b1 HN
      · by_cases hx : l0.getD (len0 - 1) 0 = 13
        · obtain ⟨b, off, rfl, hc⟩ := h0.cells p
          refine walk_cr b off a1 len0 cap0 len1 cap1 w b0 b1 p ?_
          rw [hc (len0 - 1) (by omega), hx]
        · have HN : Hid (NoCr l0) := NoCr.of_last h0.len (.inr hx)
          rcases Nat.eq_zero_or_pos len1 with z' | p'
          · subst z'
            exact split4_pz a0 a1 cap0 cap1 len0 l0 l1 w h0 h1 p b0 hx HN
          · exact split4_pp a0 a1 cap0 cap1 len0 len1 l0 l1 w h0 h1 p b0 p' b1 hx HN
    · exact walk_long a0 a1 len0 cap0 len1 cap1 w hs hh
  · exact walk_big a0 a1 len0 cap0 len1 cap1 w hs

/-! ### THE ROW's STEP: WRITTEN OUT: LEAVE IT -/
set_option maxRecDepth 100000 in
theorem lifted (os : Os) (started : os.Started) (H : Type) (enc : TypeId × Value → H) :
    ReturnsInHanded {} Try.checked os 4 .any (Rows.fnLineBreaksSplitAtLineFeedSpec.pre6 enc Try.prog Try.f4 Rows.fnLineBreaksSplitAtLineFeedRow.domain false) (Rows.fnLineBreaksSplitAtLineFeedSpec.post enc Try.prog Try.f4 false true false false) := by
  refine returnsInHanded_of_change (C := Try.checked) own started (by kernel_rfl) Try.func4
    (ChangeSpec.witness6 (enc := enc) (C := Try.checked) false ⟨#[], #[.slice none 0 0, .slice none 0 0], []⟩ 8 (by kernel_rfl) (by kernel_rfl) (by kernel_rfl) (by kernel_rfl)) ?_
  intro W base args ds gs before hval0 hW hcnd _
  have hval : ∀ (j : Nat) t v, Try.f4.params[j]? = some t → args[j]? = some v → Value.okWide Try.prog W .any base t v := hval0
  have hW' := hW
  obtain ⟨p, q, hA0, hV, rfl, hfz, hnd⟩ := hW
  have hA : DataW.TrodAll enc Try.prog W 0 (fun _ => true) true Try.f4.params.toList args.toList ds p := hA0
  rw [Try.params4] at hA hval
  obtain ⟨v0, vs0, d0, ds0, p0, q0, hargs, rfl, rfl, h0, r0⟩ := trodAll_cons hA
  obtain ⟨v1, vs1, d1, ds1, p1, q1, rfl, rfl, rfl, h1, r1⟩ := trodAll_cons r0
  obtain ⟨rfl, rfl, rfl⟩ := trodAll_nil r1
  obtain rfl : args = #[v0, v1] := by cases args; simp_all
  obtain ⟨rfl, rfl⟩ := trodVars_none hV
  obtain ⟨a0, len0, cap0, rfl⟩ := okWide_slice Try.underlying22 (hval 0 22 v0 rfl rfl)
  have k0 := h0
  have lt0 : ∀ x ∈ p0, x.block < W.heap.size := by obtain ⟨m, hm⟩ := k0; exact DataW.trod_lt m _ _ _ hm
  obtain ⟨z0, w0⟩ : ∃ zs, IsRow .u8 W a0 len0 cap0 zs := by
    obtain ⟨fuel, hf⟩ := h0
    rcases open_ints Try.underlying22 Try.underlying5 (by kernel_rfl) hf with ⟨hcs, _⟩ | ⟨x, l, c, zs, hcs, _, hl, hm, hz, _, hcell, hwz⟩
    · simp [Value.cells] at hcs
      obtain ⟨rfl, rfl, rfl⟩ := hcs
      exact ⟨[], .inl ⟨rfl, rfl, rfl, rfl⟩⟩
    · simp [Value.cells] at hcs
      obtain ⟨rfl, rfl, rfl⟩ := hcs
      exact ⟨zs, .inr ⟨_, rfl, hl, hm, by simpa using hz, hcell, hwz⟩⟩
  obtain ⟨a1, len1, cap1, rfl⟩ := okWide_slice Try.underlying22 (hval 1 22 v1 rfl rfl)
  have k1 := h1
  have lt1 : ∀ x ∈ p1, x.block < W.heap.size := by obtain ⟨m, hm⟩ := k1; exact DataW.trod_lt m _ _ _ hm
  obtain ⟨z1, w1⟩ : ∃ zs, IsRow .u8 W a1 len1 cap1 zs := by
    obtain ⟨fuel, hf⟩ := h1
    rcases open_ints Try.underlying22 Try.underlying5 (by kernel_rfl) hf with ⟨hcs, _⟩ | ⟨x, l, c, zs, hcs, _, hl, hm, hz, _, hcell, hwz⟩
    · simp [Value.cells] at hcs
      obtain ⟨rfl, rfl, rfl⟩ := hcs
      exact ⟨[], .inl ⟨rfl, rfl, rfl, rfl⟩⟩
    · simp [Value.cells] at hcs
      obtain ⟨rfl, rfl, rfl⟩ := hcs
      exact ⟨zs, .inr ⟨_, rfl, hl, hm, by simpa using hz, hcell, hwz⟩⟩
  clear hA0 hval0
  refine (walk a0 len0 cap0 z0 a1 len1 cap1 z1 W w0 w1).mono fun e W' ⟨he, bel⟩ => ?_
  subst he
  exact ⟨_, rfl, _, _, _, [], _, [], hW', trodAll_mk1 (shut_bool Try.underlying4 _), (trodAll_cons_mk (Below.trod laidOut (by kernel_rfl) (of_decide_eq_true (by kernel_rfl)) k0 bel lt0) (trodAll_cons_mk (Below.trod laidOut (by kernel_rfl) (of_decide_eq_true (by kernel_rfl)) k1 bel lt1) trodAll_mk0)), rfl, bel.frame _, fun h => by cases h⟩

theorem over : Rows.fnLineBreaksSplitAtLineFeedRow.holds Try.pinned (OpenSpec.ofChange Rows.fnLineBreaksSplitAtLineFeedSpec) :=
  OpenClaim.holds_of_wide 4 Try.f4 rfl rfl rfl rfl rfl rfl rfl ⟨rfl, rfl, rfl, rfl, rfl⟩ rfl rfl rfl rfl rfl (by kernel_rfl) Try.func4 (by kernel_rfl)
    (of_decide_eq_true (by kernel_rfl)) (by unfold Func.isWrapper; first | (rw [if_pos (by decide +kernel)]; kernel_rfl) | (rw [if_neg (by decide +kernel)]; exact ⟨rfl, rfl⟩))
    (fun os started H enc _ => lifted os started H enc)

/-- ████ THE STATEMENT ████ -/
theorem proved : Rows.FnLineBreaksSplitAtLineFeedSaid := over
#print axioms proved
end Go.Proofs.Qxb6600513a.fnLineBreaksSplitAtLineFeed
