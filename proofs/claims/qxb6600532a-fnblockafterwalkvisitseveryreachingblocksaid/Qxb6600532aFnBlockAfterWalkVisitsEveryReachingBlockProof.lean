/-
  The proof of Rows.FnBlockAfterWalkVisitsEveryReachingBlockSaid, in the shell that came with the seat.
-/
import Derived.Test.Qxb6600532aRows
import Derived.Test.Qxb6600532aAfter
import Derived.WalkKit
import Derived.ProofKit
import Derived.OpenShut
import Derived.ShutString
import Derived.ChangeOld
import Derived.Below
namespace Go.Proofs.Qxb6600532a.fnBlockAfterWalkVisitsEveryReachingBlock
open Go.ChangeShapes Go.WideShapes Go.ChangeAt Go.RowKit
open Go.ChangeMaps (open_string shut_string)
set_option linter.unusedVariables false

theorem own : ownKnob Try.prog.godebug = none := by kernel_rfl
theorem laidOut : laidOutB Try.prog = true := by kernel_rfl

/-- WHAT THE WALK IS TOLD OF A SLICE OF INTEGERS THAT CAME IN: it is nil; or it leads to a row of 'cap' cells, the numbers 'zs' (the first 'len' are its elements, the rest its spare room), each fitting its kind. -/
def IsRow (k : IntKind) (w : World) (a : Option Addr) (len cap : Nat) (zs : List Int) : Prop :=
  (a = none ∧ len = 0 ∧ cap = 0 ∧ zs = []) ∨
  ∃ x, a = some x ∧ len ≤ cap ∧ cap ≤ maxLen ∧ zs.length = cap ∧ (∀ i, i < zs.length → w.cell? (x.add i) = some (.int k (zs.getD i 0))) ∧ ∀ n ∈ zs, (Lit.int k n).wf = true

/-- From the shell's words to ours. -/
theorem sl_of {k : IntKind} {w : World} {a : Option Addr} {len cap : Nat} {zs : List Int} (h : IsRow k w a len cap zs) : Sl k w a len cap (zs.take len) := by
  rcases h with ⟨rfl, rfl, rfl, rfl⟩ | ⟨x, rfl, hl, hm, hz, hc, hw⟩
  · exact ⟨rfl, Nat.le_refl _, by decide, fun _ => ⟨rfl, rfl⟩, fun h => absurd h (by omega), by simp⟩
  · refine ⟨by simp; omega, hl, hm, fun e => by simp at e, fun h0 => ?_, fun n hn => hw n (List.mem_of_mem_take hn)⟩
    obtain ⟨b, off, spot⟩ := x
    have hspot : spot = none := by simpa [Addr.add] using World.cell?_spot (hc 0 (by omega))
    subst hspot
    refine ⟨b, off, rfl, fun i hi => ?_⟩
    rw [← add_plain, hc i (by omega)]
    have h1 : i < zs.length := by omega
    simp [List.getElem?_eq_getElem h1, hi]

/-- How many of the first k blocks reach d. -/
def cnt (l : List Int) (d : Int) : Nat → Nat
  | 0 => 0
  | k + 1 => if l.getD k 0 ≤ d then cnt l d k + 1 else cnt l d k

theorem cnt_le (l : List Int) (d : Int) : ∀ k, cnt l d k ≤ k
  | 0 => Nat.le_refl _
  | k + 1 => by have := cnt_le l d k; rw [cnt]; split <;> omega

theorem cnt_skip (l : List Int) (d : Int) (p : Nat) : ∀ m, (∀ j, p ≤ j → j < p + m → d < l.getD j 0) → cnt l d (p + m) = cnt l d p
  | 0, _ => rfl
  | m + 1, h => by
    have := h (p + m) (by omega) (by omega)
    rw [← Nat.add_assoc, cnt, if_neg (by omega)]
    exact cnt_skip l d p m (fun j h1 h2 => h j h1 (by omega))

theorem cnt_next (l : List Int) (d : Int) (p i : Nat) (hp : p ≤ i) (h : ∀ j, p ≤ j → j < i → d < l.getD j 0) (hi : l.getD i 0 ≤ d) : cnt l d (i + 1) = cnt l d p + 1 := by
  rw [cnt, if_pos hi]
  have := cnt_skip l d p (i - p) (fun j h1 h2 => h j h1 (by omega))
  rw [show p + (i - p) = i by omega] at this
  rw [this]

theorem cnt_end (l : List Int) (d : Int) (p n : Nat) (hp : p ≤ n) (h : ∀ j, p ≤ j → j < n → d < l.getD j 0) : cnt l d n = cnt l d p := by
  have := cnt_skip l d p (n - p) (fun j h1 h2 => h j h1 (by omega))
  rw [show p + (n - p) = n by omega] at this
  exact this

set_option maxHeartbeats 1000000 in
theorem walk_big (a0 : Option Addr) (n c : Nat) (d : Int) (w : World) (h : ¬ n ≤ 1048576) :
    Calls Try.prog 5 #[.slice a0 n c, .int .i64 d] w fun e w' => e = .returned (.bool true) ∧ Below w.heap.size w w' := by
  have B := fun w => bytes13_no a0 n c d w (by omega)
  go_enter Try.func5, Try.ntmps5
  go_wp2_with fail
  refine (B _).mono ?_
  rintro e w1 ⟨rfl, hw1⟩
  cases hw1
  clear B
  go_wp2
  go_ret
  exact ⟨rfl, Below.refl _ _⟩

set_option maxHeartbeats 1000000 in
theorem walk_long (a0 : Option Addr) (n c : Nat) (d : Int) (w : World) (h : n ≤ 1048576) (h2 : 65536 < n) :
    Calls Try.prog 5 #[.slice a0 n c, .int .i64 d] w fun e w' => e = .returned (.bool true) ∧ Below w.heap.size w w' := by
  have B := fun w => bytes13_yes a0 n c d w (by omega)
  have dl : (65536 : Int) < (n : Int) := by omega
  go_enter Try.func5, Try.ntmps5
  go_wp2_with fail
  refine (B _).mono ?_
  rintro e w1 ⟨rfl, hw1⟩
  cases hw1
  clear B
  go_wp2
  go_ret
  exact ⟨rfl, Below.refl _ _⟩

set_option maxHeartbeats 4000000 in
theorem walk_main (a0 : Option Addr) (n c : Nat) (l : List Int) (d : Int) (w : World) (hs : Sl .u16 w a0 n c l) (h : n ≤ 65536) :
    Calls Try.prog 5 #[.slice a0 n c, .int .i64 d] w fun e w' => e = .returned (.bool true) ∧ Below w.heap.size w w' := by
  have B := fun w => bytes13_yes a0 n c d w (by omega)
  have dl : decide ((65536 : Int) < (n : Int)) = false := decide_eq_false (by omega)
  have HLN : Hid (l.length = n) := hs.len
  go_enter Try.func5, Try.ntmps5
  go_wp2_with fail
  refine (B _).mono ?_
  rintro e w1 ⟨rfl, hw1⟩
  cases hw1
  clear B
  go_wp2_with fail
  refine (clone8_row _ n c l _ (by omega) hs).mono ?_
  rintro e w1 ⟨a', c', rfl, hb1, s1⟩
  clear hs
  go_wp2_with fail
  refine (tree10 a' n c' l _ h s1).mono ?_
  rintro e w2 ⟨⟨tv, hh, rfl, ht, t1, t2, -⟩, k2⟩
  obtain ⟨g, cap, rfl, hcap⟩ := ht.form
  have BEL : Hid (Below w.heap.size w w2) := hb1.trans (k2.below hb1.size (fun _ h => h.elim))
  have ROW : Hid (RowAt w2 a' n c' l) := s1.kept k2 (fun _ _ _ _ h => h)
  obtain ⟨B, hB⟩ : ∃ B, B = w1.heap.size := ⟨_, rfl⟩
  rw [← hB] at ht
  have TR : Hid (TreeAt w2 B (.slice (some ⟨g, 0, none⟩) (hh + 1) cap) l hh) := ht
  have AF : Hid (∀ (w : World) (b : Int), TreeAt w B (.slice (some ⟨g, 0, none⟩) (hh + 1) cap) l hh → -1 ≤ b → b ≤ 1073741824 → Calls Try.prog 9 #[.slice (some ⟨g, 0, none⟩) (hh + 1) cap, .int .i64 b, .int .i64 d] w fun e w' => (∃ r, e = .returned (.int .i64 r) ∧ FR l b d r) ∧ Kept no w w') := fun w b q1 q2 q3 => after9 B g hh cap l b d w (by rw [HLN.out]; exact h) q1 t1 t2 q2 q3
  have HM : Hid (∀ k, k < n → 0 ≤ l.getD k 0 ∧ l.getD k 0 ≤ 65535) := fun k hk => by
    have hm : l.getD k 0 ∈ l := by
      have : k < l.length := by rw [HLN.out]; exact hk
      simp [List.getElem?_eq_getElem this]
    exact u16_bounds (s1.1.wf _ hm)
  have HCL : Hid (∀ k, cnt l d k ≤ k) := cnt_le l d
  clear hb1 s1 k2 hB ht t1
  go_wp2
  go_loopw [6, 7] (fun cv iv wr => ∃ k N : Nat, k ≤ n ∧ N ≤ k ∧ cv = .int .i64 N ∧ iv = .int .i64 k ∧ Hid (N = cnt l d k) ∧ wr = w2) (fun _ iv _ => n - (intOf iv).toNat)
  case atStart => exact ⟨0, 0, by omega, by omega, rfl, rfl, rfl, rfl⟩
  case round =>
    obtain ⟨k, N, hk, hNk, rfl, rfl, E, hw⟩ := hrel
    have hw' := hw.symm
    subst hw'
    by_cases hlt : k < n
    · obtain ⟨bb, off, rfl, hcell⟩ := ROW.out.1.cells (by omega)
      have hx := hcell k hlt
      obtain ⟨x0, x1⟩ := HM.out k hlt
      have EX : Hid (l.getD k 0 ≤ d → N + 1 = cnt l d (k + 1)) := fun h1 => by rw [cnt, if_pos h1, E.out]
      have EN : Hid (¬ l.getD k 0 ≤ d → N = cnt l d (k + 1)) := fun h1 => by rw [cnt, if_neg h1, E.out]
      clear hcell
      generalize l.getD k 0 = x at hx EX EN x0 x1
      by_cases hxd : x ≤ d
      · have dx : decide (x ≤ d) = true := decide_eq_true hxd
        go_wp2
        go_roundw
        case rel => exact ⟨k + 1, N + 1, by omega, by omega, by go_num, by go_num, EX.out hxd, by trivial⟩
        case measure => simp [intOf]; omega
      · have dx : decide (x ≤ d) = false := decide_eq_false hxd
        go_wp2
        go_roundw
        case rel => exact ⟨k + 1, N, by omega, by omega, by go_num, by go_num, EN.out hxd, by trivial⟩
        case measure => simp [intOf]; omega
    · obtain rfl : k = n := by omega
      go_wp2_with fail
      refine (AF.out _ (-1) TR.out (by omega) (by omega)).mono ?_
      rintro e w3 ⟨⟨r0, rfl, hr0⟩, k3⟩
      have ROW3 : Hid (RowAt w3 a' k c' l) := ROW.out.kept k3 (fun _ _ _ _ h => h)
      have TR3 : Hid (TreeAt w3 B (.slice (some ⟨g, 0, none⟩) (hh + 1) cap) l hh) := TR.out.kept k3 (fun _ h => h.elim) (fun _ _ _ _ h => h)
      have BEL3 : Hid (Below w.heap.size w w3) := BEL.out.trans (k3.below BEL.out.size (fun _ h => h.elim))
      have HR0 : Hid (FR l (-1) d r0) := hr0
      clear hr0 k3 ROW TR BEL
      go_wp2
      go_loopw [8, 9, 10, 11] (fun cv pv rv sv wr => ∃ P C : Nat, ∃ p r : Int, p + 1 = P ∧ P ≤ k ∧ C ≤ P ∧ cv = .int .i64 C ∧ pv = .int .i64 p ∧ rv = .int .i64 r ∧ sv = .int .i64 C ∧ Hid (C = cnt l d P) ∧ Hid (FR l p d r) ∧ Hid (RowAt wr a' k c' l) ∧ Hid (TreeAt wr B (.slice (some ⟨g, 0, none⟩) (hh + 1) cap) l hh) ∧ Hid (Below w.heap.size w wr)) (fun _ pv _ _ _ => k - (intOf pv + 1).toNat)
      case atStart => exact ⟨0, 0, -1, r0, by omega, by omega, by omega, rfl, rfl, rfl, rfl, rfl, HR0.out, ROW3.out, TR3.out, BEL3.out⟩
      case round =>
        obtain ⟨P, C, p, r, hp, hP, hC, rfl, rfl, rfl, rfl, EC, FRr, RO, TRr, BE⟩ := hrel
        rcases FRr.out with ⟨rfl, hnone⟩ | ⟨i, rfl, i1, i2, i3, i4⟩
        · have hNC : N = C := by
            rw [E.out, EC.out]
            exact cnt_end l d P k hP (fun j h1 h2 => hnone j (by omega) (by rw [HLN.out]; exact h2))
          subst hNC
          clear hnone
          go_wp2
          go_ret
          exact ⟨by first | rfl | simp, BE.out⟩
        · rw [HLN.out] at i1
          have hPi : P ≤ i := by omega
          have EC' : Hid (C + 1 = cnt l d (i + 1)) := by
            show _ = _
            rw [cnt_next l d P i hPi (fun j h1 h2 => i4 j (by omega) h2) i3, ← EC.out]
          obtain ⟨bb, off, rfl, hcell⟩ := RO.out.1.cells (by omega)
          have hx := hcell i i1
          obtain ⟨x0, x1⟩ := HM.out i i1
          clear hcell i4
          generalize l.getD i 0 = x at hx x0 x1 i3
          have e1 : decide ((k : Int) < (C : Int)) = false := decide_eq_false (by omega)
          have e2 : decide ((i : Int) ≤ p) = false := decide_eq_false (by omega)
          have e3 : decide ((k : Int) ≤ (i : Int)) = false := decide_eq_false (by omega)
          have e4 : decide (d < x) = false := decide_eq_false (by omega)
          go_wp2_with fail
          refine (AF.out _ i TRr.out (by omega) (by omega)).mono ?_
          rintro e w4 ⟨⟨r', rfl, hr'⟩, k4⟩
          have RO' : Hid (RowAt w4 (some ⟨bb, off, none⟩) k c' l) := RO.out.kept k4 (fun _ _ _ _ h => h)
          have TR' : Hid (TreeAt w4 B (.slice (some ⟨g, 0, none⟩) (hh + 1) cap) l hh) := TRr.out.kept k4 (fun _ h => h.elim) (fun _ _ _ _ h => h)
          have BE' : Hid (Below w.heap.size w w4) := BE.out.trans (k4.below BE.out.size (fun _ h => h.elim))
          have HR' : Hid (FR l i d r') := hr'
          clear hr' k4 RO TRr BE
          go_wp2
          go_roundw
          case rel => exact ⟨i + 1, C + 1, i, r', by omega, by omega, by omega, by go_num, rfl, rfl, by go_num, EC'.out, HR'.out, RO'.out, TR'.out, BE'.out⟩
          case measure => simp [intOf]; omega

theorem walk (a0 : Option Addr) (len0 cap0 : Nat) (z0 : List Int) (a1 : Int) (w : World) (w0 : IsRow .u16 w a0 len0 cap0 z0) (w1 : (Lit.int .i64 a1).wf = true) :
    Calls Try.prog 5 #[.slice a0 len0 cap0, .int .i64 a1] w fun e w' => e = .returned (.bool true) ∧ Below w.heap.size w w' := by
  by_cases h1 : len0 ≤ 1048576
  · by_cases h2 : len0 ≤ 65536
    · exact walk_main _ _ _ _ _ w (sl_of w0) h2
    · exact walk_long _ _ _ _ w h1 (by omega)
  · exact walk_big _ _ _ _ w h1

/-! ### THE ROW's STEP: WRITTEN OUT: LEAVE IT -/
set_option maxRecDepth 100000 in
theorem lifted (os : Os) (started : os.Started) (H : Type) (enc : TypeId × Value → H) :
    ReturnsInHanded {} Try.checked os 5 .any (Rows.fnBlockAfterWalkVisitsEveryReachingBlockSpec.pre6 enc Try.prog Try.f5 Rows.fnBlockAfterWalkVisitsEveryReachingBlockRow.domain false) (Rows.fnBlockAfterWalkVisitsEveryReachingBlockSpec.post enc Try.prog Try.f5 false true false false) := by
  refine returnsInHanded_of_change (C := Try.checked) own started (by kernel_rfl) Try.func5
    (ChangeSpec.witness6 (enc := enc) (C := Try.checked) false ⟨#[], #[.slice none 0 0, .int .i64 0], []⟩ 8 (by kernel_rfl) (by kernel_rfl) (by kernel_rfl) (by kernel_rfl)) ?_
  intro W base args ds gs before hval0 hW hcnd _
  have hval : ∀ (j : Nat) t v, Try.f5.params[j]? = some t → args[j]? = some v → Value.okWide Try.prog W .any base t v := hval0
  have hW' := hW
  obtain ⟨p, q, hA0, hV, rfl, hfz, hnd⟩ := hW
  have hA : DataW.TrodAll enc Try.prog W 0 (fun _ => true) true Try.f5.params.toList args.toList ds p := hA0
  rw [Try.params5] at hA hval
  obtain ⟨v0, vs0, d0, ds0, p0, q0, hargs, rfl, rfl, h0, r0⟩ := trodAll_cons hA
  obtain ⟨v1, vs1, d1, ds1, p1, q1, rfl, rfl, rfl, h1, r1⟩ := trodAll_cons r0
  obtain ⟨rfl, rfl, rfl⟩ := trodAll_nil r1
  obtain rfl : args = #[v0, v1] := by cases args; simp_all
  obtain ⟨rfl, rfl⟩ := trodVars_none hV
  obtain ⟨a0, len0, cap0, rfl⟩ := okWide_slice Try.underlying22 (hval 0 22 v0 rfl rfl)
  have k0 := h0
  have lt0 : ∀ x ∈ p0, x.block < W.heap.size := by obtain ⟨m, hm⟩ := k0; exact DataW.trod_lt m _ _ _ hm
  obtain ⟨z0, w0⟩ : ∃ zs, IsRow .u16 W a0 len0 cap0 zs := by
    obtain ⟨fuel, hf⟩ := h0
    rcases open_ints Try.underlying22 Try.underlying31 (by kernel_rfl) hf with ⟨hcs, _⟩ | ⟨x, l, c, zs, hcs, _, hl, hm, hz, _, hcell, hwz⟩
    · simp [Value.cells] at hcs
      obtain ⟨rfl, rfl, rfl⟩ := hcs
      exact ⟨[], .inl ⟨rfl, rfl, rfl, rfl⟩⟩
    · simp [Value.cells] at hcs
      obtain ⟨rfl, rfl, rfl⟩ := hcs
      exact ⟨zs, .inr ⟨_, rfl, hl, hm, by simpa using hz, hcell, hwz⟩⟩
  obtain ⟨a1, rfl, rfl, rfl, w1⟩ := open_int Try.underlying3 (hval 1 3 v1 rfl rfl) h1
  clear hA0 hval0
  refine (walk a0 len0 cap0 z0 a1 W w0 w1).mono fun e W' ⟨he, bel⟩ => ?_
  subst he
  exact ⟨_, rfl, _, _, _, [], _, [], hW', trodAll_mk1 (shut_bool Try.underlying4 _), (trodAll_cons_mk (Below.trod laidOut (by kernel_rfl) (of_decide_eq_true (by kernel_rfl)) k0 bel lt0) (trodAll_cons_mk (shut_int Try.underlying3 w1) trodAll_mk0)), rfl, bel.frame _, fun h => by cases h⟩

theorem over : Rows.fnBlockAfterWalkVisitsEveryReachingBlockRow.holds Try.pinned (OpenSpec.ofChange Rows.fnBlockAfterWalkVisitsEveryReachingBlockSpec) :=
  OpenClaim.holds_of_wide 5 Try.f5 rfl rfl rfl rfl rfl rfl rfl ⟨rfl, rfl, rfl, rfl, rfl⟩ rfl rfl rfl rfl rfl (by kernel_rfl) Try.func5 (by kernel_rfl)
    (of_decide_eq_true (by kernel_rfl)) (by unfold Func.isWrapper; first | (rw [if_pos (by decide +kernel)]; kernel_rfl) | (rw [if_neg (by decide +kernel)]; exact ⟨rfl, rfl⟩))
    (fun os started H enc _ => lifted os started H enc)

/-- ████ THE STATEMENT ████ -/
theorem proved : Rows.FnBlockAfterWalkVisitsEveryReachingBlockSaid := over
#print axioms proved
end Go.Proofs.Qxb6600532a.fnBlockAfterWalkVisitsEveryReachingBlock
