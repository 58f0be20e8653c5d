/-
  The proof of Rows.FnKindIsSetByFirstByteAloneSaid, in the shell that came with the seat.
-/
import Derived.Test.Qxb6600532aRows
import Derived.Test.Qxb6600532aConcat
import Derived.WalkKit
import Derived.ProofKit
import Derived.OpenShut
import Derived.ShutString
import Derived.ChangeOld
import Derived.Below
namespace Go.Proofs.Qxb6600532a.fnKindIsSetByFirstByteAlone
open Go.ChangeShapes Go.WideShapes Go.ChangeAt Go.RowKit
open Go.ChangeMaps (open_string shut_string)
set_option linter.unusedVariables false

theorem own : ownKnob Try.prog.godebug = none := by kernel_rfl
theorem laidOut : laidOutB Try.prog = true := by kernel_rfl

/-- WHAT THE WALK IS TOLD OF A SLICE OF INTEGERS THAT CAME IN: it is nil; or it leads to a row of 'cap' cells, the numbers 'zs' (the first 'len' are its elements, the rest its spare room), each fitting its kind. -/
def IsRow (k : IntKind) (w : World) (a : Option Addr) (len cap : Nat) (zs : List Int) : Prop :=
  (a = none ∧ len = 0 ∧ cap = 0 ∧ zs = []) ∨
  ∃ x, a = some x ∧ len ≤ cap ∧ cap ≤ maxLen ∧ zs.length = cap ∧ (∀ i, i < zs.length → w.cell? (x.add i) = some (.int k (zs.getD i 0))) ∧ ∀ n ∈ zs, (Lit.int k n).wf = true

/-- From the shell's words to ours. -/
theorem sl_of {k : IntKind} {w : World} {a : Option Addr} {len cap : Nat} {zs : List Int} (h : IsRow k w a len cap zs) : Sl k w a len cap (zs.take len) := by
  rcases h with ⟨rfl, rfl, rfl, rfl⟩ | ⟨x, rfl, hl, hm, hz, hc, hw⟩
  · exact ⟨rfl, Nat.le_refl _, by decide, fun _ => ⟨rfl, rfl⟩, fun h => absurd h (by omega), by simp⟩
  · refine ⟨by simp; omega, hl, hm, fun e => by simp at e, fun h0 => ?_, fun n hn => hw n (List.mem_of_mem_take hn)⟩
    obtain ⟨b, off, spot⟩ := x
    have hspot : spot = none := by simpa [Addr.add] using World.cell?_spot (hc 0 (by omega))
    subst hspot
    refine ⟨b, off, rfl, fun i hi => ?_⟩
    rw [← add_plain, hc i (by omega)]
    have h1 : i < zs.length := by omega
    simp [List.getElem?_eq_getElem h1, hi]

set_option maxHeartbeats 1000000 in
theorem walk_big (a0 a1 : Option Addr) (n0 c0 n1 c1 : Nat) (w : World) (h : ¬ n0 + n1 ≤ 1048576) :
    Calls Try.prog 6 #[.slice a0 n0 c0, .slice a1 n1 c1] w fun e w' => e = .returned (.bool true) ∧ Below w.heap.size w w' := by
  have B := fun w => bytes14_no a0 a1 n0 c0 n1 c1 w h
  clear h
  go_enter Try.func6, Try.ntmps6
  go_wp2_with fail
  refine (B _).mono ?_
  rintro e w1 ⟨rfl, hw1⟩
  cases hw1
  go_wp2
  go_ret
  exact ⟨rfl, Below.refl _ _⟩

set_option maxHeartbeats 1000000 in
theorem walk_long0 (a0 a1 : Option Addr) (n0 c0 n1 c1 : Nat) (w : World) (h : n0 + n1 ≤ 1048576) (h2 : 65536 < n0) :
    Calls Try.prog 6 #[.slice a0 n0 c0, .slice a1 n1 c1] w fun e w' => e = .returned (.bool true) ∧ Below w.heap.size w w' := by
  have B := fun w => bytes14_yes a0 a1 n0 c0 n1 c1 w h
  have d1 : (65536 : Int) < (n0 : Int) := by omega
  clear h h2
  go_enter Try.func6, Try.ntmps6
  go_wp2_with fail
  refine (B _).mono ?_
  rintro e w1 ⟨rfl, hw1⟩
  cases hw1
  go_wp2
  go_ret
  exact ⟨rfl, Below.refl _ _⟩

set_option maxHeartbeats 1000000 in
theorem walk_long1 (a0 a1 : Option Addr) (n0 c0 n1 c1 : Nat) (w : World) (h : n0 + n1 ≤ 1048576) (h2 : n0 ≤ 65536) (h3 : 65536 < n1) :
    Calls Try.prog 6 #[.slice a0 n0 c0, .slice a1 n1 c1] w fun e w' => e = .returned (.bool true) ∧ Below w.heap.size w w' := by
  have B := fun w => bytes14_yes a0 a1 n0 c0 n1 c1 w h
  have d0 : decide ((65536 : Int) < (n0 : Int)) = false := decide_eq_false (by omega)
  have d1 : (65536 : Int) < (n1 : Int) := by omega
  clear h h2 h3
  go_enter Try.func6, Try.ntmps6
  go_wp2_with fail
  refine (B _).mono ?_
  rintro e w1 ⟨rfl, hw1⟩
  cases hw1
  go_wp2
  go_ret
  exact ⟨rfl, Below.refl _ _⟩

set_option maxHeartbeats 1000000 in
theorem walk_none (a0 a1 : Option Addr) (c0 n1 c1 : Nat) (l0 l1 : List Int) (w : World) (h0 : Sl .u8 w a0 0 c0 l0) (h1 : Sl .u8 w a1 n1 c1 l1) (b1 : n1 ≤ 65536) :
    Calls Try.prog 6 #[.slice a0 0 c0, .slice a1 n1 c1] w fun e w' => e = .returned (.bool true) ∧ Below w.heap.size w w' := by
  have B := fun w => bytes14_yes a0 a1 0 c0 n1 c1 w (by omega)
  have d1 : decide ((65536 : Int) < (n1 : Int)) = false := decide_eq_false (by omega)
  go_enter Try.func6, Try.ntmps6
  go_wp2_with fail
  refine (B _).mono ?_
  rintro e w1 ⟨rfl, hw1⟩
  cases hw1
  clear B
  go_wp2_with fail
  refine (clone15 _ 0 c0 l0 _ (by omega) h0).mono ?_
  rintro e w1 ⟨a', c', rfl, hb1, s1, -⟩
  go_wp2_with fail
  refine (clone15 _ n1 c1 l1 _ (by omega) (h1.below hb1)).mono ?_
  rintro e w2 ⟨a'', c'', rfl, hb2, s2, -⟩
  go_wp2_with fail
  refine (value16 a' 0 c' _).mono ?_
  rintro e w3 ⟨rfl, k3⟩
  go_wp2_with fail
  refine (kind17_none a' c' _).mono ?_
  rintro e w4 ⟨rfl, k4⟩
  go_wp2
  go_ret
  exact ⟨rfl, (hb1.trans (hb2.mono hb1.size)).trans ((k3.same k4).below (Nat.le_trans hb1.size hb2.size) (fun _ h => h.elim))⟩

set_option maxHeartbeats 1000000 in
theorem walk_some (a0 a1 : Option Addr) (n0 c0 n1 c1 : Nat) (l0 l1 : List Int) (w : World) (h0 : Sl .u8 w a0 n0 c0 l0) (h1 : Sl .u8 w a1 n1 c1 l1) (b0 : n0 ≤ 65536) (b1 : n1 ≤ 65536) (hp : 0 < n0) :
    Calls Try.prog 6 #[.slice a0 n0 c0, .slice a1 n1 c1] w fun e w' => e = .returned (.bool true) ∧ Below w.heap.size w w' := by
  have B := fun w => bytes14_yes a0 a1 n0 c0 n1 c1 w (by omega)
  have d0 : decide ((65536 : Int) < (n0 : Int)) = false := decide_eq_false (by omega)
  have d1 : decide ((65536 : Int) < (n1 : Int)) = false := decide_eq_false (by omega)
  have hz : ((n0 : Int) == 0) = false := by simp; omega
  have h1n : (1 : Int) ≤ (n0 : Int) := by omega
  have kz : (kindOf (l0.getD 0 0) == 0) = false := by simpa using kindOf_ne (l0.getD 0 0)
  have kn : (kindOf (l0.getD 0 0) != kindOf (l0.getD 0 0)) = false := by simp
  have ke : (kindOf (l0.getD 0 0) == kindOf (l0.getD 0 0)) = true := by simp
  have K17 : Hid (∀ b off n c w, 0 < n → w.cell? ⟨b, off, none⟩ = some (.int .u8 (l0.getD 0 0)) → Calls Try.prog 17 #[.agg #[.slice (some ⟨b, off, none⟩) n c, .pointer none]] w fun e w' => e = .returned (.int .u8 (kindOf (l0.getD 0 0))) ∧ Kept no w w') := fun b off n c w hn hx => kind17_some b off n c _ w hn hx
  have C18 : Hid (∀ a' a'' c' c'' w, Sl .u8 w a' n0 c' l0 → Sl .u8 w a'' n1 c'' l1 → Calls Try.prog 18 #[.slice a' n0 c', .slice a'' n1 c''] w fun e w' => ∃ g N, e = .returned (.slice (some ⟨g, 0, none⟩) N N) ∧ 0 < N ∧ w'.cell? ⟨g, 0, none⟩ = some (.int .u8 (l0.getD 0 0)) ∧ Kept no w w') := fun a' a'' c' c'' w s1 s2 => concat18 a' a'' n0 c' n1 c'' l0 l1 w s1 s2 hp (by omega) (by omega)
  have HC : Hid (∀ (w : World) b off c, Sl .u8 w (some ⟨b, off, none⟩) n0 c l0 → w.cell? ⟨b, off, none⟩ = some (.int .u8 (l0.getD 0 0))) := fun w b off c s => by
    obtain ⟨b', o', e, hc⟩ := s.cells hp
    simp at e
    obtain ⟨rfl, rfl⟩ := e
    exact hc 0 hp
  generalize l0.getD 0 0 = x at *
  generalize kindOf x = kx at *
  go_enter Try.func6, Try.ntmps6
  go_wp2_with fail
  refine (B _).mono ?_
  rintro e w1 ⟨rfl, hw1⟩
  cases hw1
  clear B
  go_wp2_with fail
  refine (clone15 _ n0 c0 l0 _ (by omega) h0).mono ?_
  rintro e w1 ⟨a', c', rfl, hb1, s1, -⟩
  go_wp2_with fail
  refine (clone15 _ n1 c1 l1 _ (by omega) (h1.below hb1)).mono ?_
  rintro e w2 ⟨a'', c'', rfl, hb2, s2, -⟩
  have s1' := s1.below hb2
  obtain ⟨b, off, rfl, -⟩ := s1'.cells hp
  have S1 : Hid (Sl .u8 w2 (some ⟨b, off, none⟩) n0 c' l0) := s1'
  have S2 : Hid (Sl .u8 w2 a'' n1 c'' l1) := s2
  have hc1 := s1'.le
  have hb12 := hb1.trans (hb2.mono hb1.size)
  have hsz := Nat.le_trans hb1.size hb2.size
  clear s1 s1' s2 h0 h1 hb1 hb2
  go_wp2_with fail
  refine (value16 _ n0 c' _).mono ?_
  rintro e w3 ⟨rfl, k3⟩
  go_wp2_with fail
  refine (K17.out b off n0 c' _ hp (HC.out _ _ _ _ (k3.sl S1.out fun _ _ h => h))).mono ?_
  rintro e w4 ⟨rfl, k4⟩
  have k24 := k3.same k4
  clear k3 k4
  go_wp2_with fail
  refine (value16 _ 1 c' _).mono ?_
  rintro e w5 ⟨rfl, k5⟩
  have k25 := k24.same k5
  go_wp2_with fail
  refine (K17.out b off 1 c' _ (by omega) (HC.out _ _ _ _ (k25.sl S1.out fun _ _ h => h))).mono ?_
  rintro e w6 ⟨rfl, k6⟩
  have k26 := k25.same k6
  clear k24 k5 k25 k6
  go_wp2_with fail
  refine (C18.out _ _ _ _ _ (k26.sl S1.out fun _ _ h => h) (k26.sl S2.out fun _ _ h => h)).mono ?_
  rintro e w7 ⟨g, N, rfl, hN, hx7, k7⟩
  have k27 := k26.same k7
  have HX7 : Hid (w7.cell? ⟨g, 0, none⟩ = some (.int .u8 x)) := hx7
  clear hx7 k26 k7
  go_wp2_with fail
  refine (value16 _ N N _).mono ?_
  rintro e w8 ⟨rfl, k8⟩
  have k28 := k27.same k8
  go_wp2_with fail
  refine (K17.out g 0 N N _ hN (by rw [World.cell?_of_block (w := w7) (k8.block g (World.block_lt_of_cell? w7 _ HX7.out) (fun h => h))]; exact HX7.out)).mono ?_
  rintro e w9 ⟨rfl, k9⟩
  go_wp2
  go_ret
  exact ⟨rfl, hb12.trans ((k28.same k9).below hsz (fun _ h => h.elim))⟩

theorem walk (a0 : Option Addr) (len0 cap0 : Nat) (z0 : List Int) (a1 : Option Addr) (len1 cap1 : Nat) (z1 : List Int) (w : World) (w0 : IsRow .u8 w a0 len0 cap0 z0) (w1 : IsRow .u8 w a1 len1 cap1 z1) :
    Calls Try.prog 6 #[.slice a0 len0 cap0, .slice a1 len1 cap1] w fun e w' => e = .returned (.bool true) ∧ Below w.heap.size w w' := by
  have h0 := sl_of w0
  have h1 := sl_of w1
  generalize z0.take len0 = l0 at h0
  generalize z1.take len1 = l1 at h1
  by_cases hs : len0 + len1 ≤ 1048576
  · by_cases hh : 65536 < len0
    · exact walk_long0 a0 a1 len0 cap0 len1 cap1 w hs hh
    · by_cases hh1 : 65536 < len1
      · exact walk_long1 a0 a1 len0 cap0 len1 cap1 w hs (by omega) hh1
      · rcases Nat.eq_zero_or_pos len0 with z | p
        · subst z
          exact walk_none a0 a1 cap0 len1 cap1 l0 l1 w h0 h1 (by omega)
        · exact walk_some a0 a1 len0 cap0 len1 cap1 l0 l1 w h0 h1 (by omega) (by omega) p
  · exact walk_big a0 a1 len0 cap0 len1 cap1 w hs

/-! ### THE ROW's STEP: WRITTEN OUT: LEAVE IT -/
set_option maxRecDepth 100000 in
theorem lifted (os : Os) (started : os.Started) (H : Type) (enc : TypeId × Value → H) :
    ReturnsInHanded {} Try.checked os 6 .any (Rows.fnKindIsSetByFirstByteAloneSpec.pre6 enc Try.prog Try.f6 Rows.fnKindIsSetByFirstByteAloneRow.domain false) (Rows.fnKindIsSetByFirstByteAloneSpec.post enc Try.prog Try.f6 false true false false) := by
  refine returnsInHanded_of_change (C := Try.checked) own started (by kernel_rfl) Try.func6
    (ChangeSpec.witness6 (enc := enc) (C := Try.checked) false ⟨#[], #[.slice none 0 0, .slice none 0 0], []⟩ 8 (by kernel_rfl) (by kernel_rfl) (by kernel_rfl) (by kernel_rfl)) ?_
  intro W base args ds gs before hval0 hW hcnd _
  have hval : ∀ (j : Nat) t v, Try.f6.params[j]? = some t → args[j]? = some v → Value.okWide Try.prog W .any base t v := hval0
  have hW' := hW
  obtain ⟨p, q, hA0, hV, rfl, hfz, hnd⟩ := hW
  have hA : DataW.TrodAll enc Try.prog W 0 (fun _ => true) true Try.f6.params.toList args.toList ds p := hA0
  rw [Try.params6] at hA hval
  obtain ⟨v0, vs0, d0, ds0, p0, q0, hargs, rfl, rfl, h0, r0⟩ := trodAll_cons hA
  obtain ⟨v1, vs1, d1, ds1, p1, q1, rfl, rfl, rfl, h1, r1⟩ := trodAll_cons r0
  obtain ⟨rfl, rfl, rfl⟩ := trodAll_nil r1
  obtain rfl : args = #[v0, v1] := by cases args; simp_all
  obtain ⟨rfl, rfl⟩ := trodVars_none hV
  obtain ⟨a0, len0, cap0, rfl⟩ := okWide_slice Try.underlying32 (hval 0 32 v0 rfl rfl)
  have k0 := h0
  have lt0 : ∀ x ∈ p0, x.block < W.heap.size := by obtain ⟨m, hm⟩ := k0; exact DataW.trod_lt m _ _ _ hm
  obtain ⟨z0, w0⟩ : ∃ zs, IsRow .u8 W a0 len0 cap0 zs := by
    obtain ⟨fuel, hf⟩ := h0
    rcases open_ints Try.underlying32 Try.underlying5 (by kernel_rfl) hf with ⟨hcs, _⟩ | ⟨x, l, c, zs, hcs, _, hl, hm, hz, _, hcell, hwz⟩
    · simp [Value.cells] at hcs
      obtain ⟨rfl, rfl, rfl⟩ := hcs
      exact ⟨[], .inl ⟨rfl, rfl, rfl, rfl⟩⟩
    · simp [Value.cells] at hcs
      obtain ⟨rfl, rfl, rfl⟩ := hcs
      exact ⟨zs, .inr ⟨_, rfl, hl, hm, by simpa using hz, hcell, hwz⟩⟩
  obtain ⟨a1, len1, cap1, rfl⟩ := okWide_slice Try.underlying32 (hval 1 32 v1 rfl rfl)
  have k1 := h1
  have lt1 : ∀ x ∈ p1, x.block < W.heap.size := by obtain ⟨m, hm⟩ := k1; exact DataW.trod_lt m _ _ _ hm
  obtain ⟨z1, w1⟩ : ∃ zs, IsRow .u8 W a1 len1 cap1 zs := by
    obtain ⟨fuel, hf⟩ := h1
    rcases open_ints Try.underlying32 Try.underlying5 (by kernel_rfl) hf with ⟨hcs, _⟩ | ⟨x, l, c, zs, hcs, _, hl, hm, hz, _, hcell, hwz⟩
    · simp [Value.cells] at hcs
      obtain ⟨rfl, rfl, rfl⟩ := hcs
      exact ⟨[], .inl ⟨rfl, rfl, rfl, rfl⟩⟩
    · simp [Value.cells] at hcs
      obtain ⟨rfl, rfl, rfl⟩ := hcs
      exact ⟨zs, .inr ⟨_, rfl, hl, hm, by simpa using hz, hcell, hwz⟩⟩
  clear hA0 hval0
  refine (walk a0 len0 cap0 z0 a1 len1 cap1 z1 W w0 w1).mono fun e W' ⟨he, bel⟩ => ?_
  subst he
  exact ⟨_, rfl, _, _, _, [], _, [], hW', trodAll_mk1 (shut_bool Try.underlying4 _), (trodAll_cons_mk (Below.trod laidOut (by kernel_rfl) (of_decide_eq_true (by kernel_rfl)) k0 bel lt0) (trodAll_cons_mk (Below.trod laidOut (by kernel_rfl) (of_decide_eq_true (by kernel_rfl)) k1 bel lt1) trodAll_mk0)), rfl, bel.frame _, fun h => by cases h⟩

theorem over : Rows.fnKindIsSetByFirstByteAloneRow.holds Try.pinned (OpenSpec.ofChange Rows.fnKindIsSetByFirstByteAloneSpec) :=
  OpenClaim.holds_of_wide 6 Try.f6 rfl rfl rfl rfl rfl rfl rfl ⟨rfl, rfl, rfl, rfl, rfl⟩ rfl rfl rfl rfl rfl (by kernel_rfl) Try.func6 (by kernel_rfl)
    (of_decide_eq_true (by kernel_rfl)) (by unfold Func.isWrapper; first | (rw [if_pos (by decide +kernel)]; kernel_rfl) | (rw [if_neg (by decide +kernel)]; exact ⟨rfl, rfl⟩))
    (fun os started H enc _ => lifted os started H enc)

/-- ████ THE STATEMENT ████ -/
theorem proved : Rows.FnKindIsSetByFirstByteAloneSaid := over
#print axioms proved
end Go.Proofs.Qxb6600532a.fnKindIsSetByFirstByteAlone
