/-
  FnEnterTopListSetsTargets walked: no start.
-/
import Derived.Test.Qxb6600513aTopSteps
import Derived.Lib.SlBytesConst
namespace Go.Proofs.Qxb6600513a
open Go.RowKit
set_option linter.unusedVariables false
set_option linter.unusedSimpArgs false

set_option maxRecDepth 100000 in
set_option maxHeartbeats 2000000 in
theorem top_zero (a0 a5 : Option Addr) (c0 n5 c5 : Nat) (indent ci colon most : Int) (l0 l5 : List Int) (w : World) (h0 : Sl .i64 w a0 0 c0 l0) (h5 : Sl .i64 w a5 n5 c5 l5) (b5 : n5 ≤ 65536) (hi0 : 0 ≤ indent) (hc0 : 0 ≤ ci) (hci : ci ≤ indent) :
    Calls Try.prog 5 #[.slice a0 0 c0, .int .i64 indent, .int .i64 ci, .int .i64 colon, .int .i64 most, .slice a5 n5 c5] w fun e w' => e = .returned (.bool true) ∧ Below w.heap.size w w' := by
  have kc := fun (w : World) (C : Array Value) (n c : Nat) => Lib.run_convert_bytes_const (P := Try.prog) w 22 5 C n c Try.underlying22 Try.underlying5
  have H13 : Hid (∀ w, Calls Try.prog 13 #[.slice a0 0 c0, .int .i64 indent, .int .i64 ci, .int .i64 colon, .int .i64 most, .slice a5 n5 c5] w fun e w' => e = .returned (.bool true) ∧ w' = w) := fun w => bytes13_yes a0 a5 0 c0 n5 c5 indent ci colon most w (by omega)
  have H0 : Hid (Sl .i64 w a0 0 c0 l0) := h0
  have H5 : Hid (Sl .i64 w a5 n5 c5 l5) := h5
  clear h0 h5
  have d2 : decide ((65536 : Int) < (n5 : Int)) = false := decide_eq_false (by omega)
  have d3 : decide (indent < 0) = false := decide_eq_false (by omega)
  have d4 : decide (ci < 0) = false := decide_eq_false (by omega)
  have d5 : decide (indent < ci) = false := decide_eq_false (by omega)
  go_enter Try.func5, Try.ntmps5
  go_wp2_with fail
  refine (H13.out _).mono ?_
  rintro e w1 ⟨rfl, hw⟩
  cases hw
  clear H13
  go_wp2_with fail
  refine (clone14x _ 0 c0 l0 _ (by omega) H0.out).mono ?_
  rintro e w1 ⟨a0', c0', rfl, k1, s1, nil1, at1⟩
  go_wp2_with fail
  refine (clone14x _ n5 c5 l5 _ (by omega) (H5.out.keptNo k1)).mono ?_
  rintro e w2 ⟨a5', c5', rfl, k2, s2, nil2, at2⟩
  have s1' := s1.keptNo k2
  have k12 := k1.same k2
  have S0 : Hid (Sl .i64 w2 a0' 0 c0' l0) := s1'
  have S5 : Hid (Sl .i64 w2 a5' n5 c5' l5) := s2
  have AT1 : Hid (∀ x, a0' = some x → x.block = w.heap.size ∧ w.heap.size < w1.heap.size) := at1
  have AT2 : Hid (∀ x, a5' = some x → x.block = w1.heap.size ∧ w1.heap.size < w2.heap.size) := at2
  have NIL2 : Hid (a5' = none ↔ a5 = none) := nil2
  have z1 := k1.size
  have z2 := k2.size
  clear s1 s1' s2 at1 at2 nil1 nil2 k1 k2 H0 H5
  go_wp2_with fail
  refine (newScan15x w2.heap.size most _).mono ?_
  rintro e w3 ⟨S, rfl, hSe, hS3, k3, z3⟩
  have hD3 : DataAt w3 w2.heap.size := k3.heap (heap_new w2 (.cells (dataNums.map (Value.int .u8)).toArray 5 (9, 10))) (fun h => h)
  have k23 : Kept no w2 w3 := ((Kept.refl no w2).alloc _).same k3
  have hSlt : w2.heap.size < S := by rw [hSe]; simp
  have z3' : w3.heap.size = S + 1 := by rw [z3, ← hSe]
  have Z3 : Hid (w3.heap.size = S + 1) := z3'
  have HS3 : Hid (ScanAt w3 S w2.heap.size 0 most (.slice none 0 0) (.slice none 0 0) (.slice none 0 0)) := hS3
  have HD3 : Hid (DataAt w3 w2.heap.size) := hD3
  clear hSe z3 z3' hS3 hD3 k3
  go_wp2_with fail
  refine (clone14x _ n5 c5' l5 _ (by omega) (S5.out.keptNo k23)).mono ?_
  rintro e w4 ⟨ta, tc, rfl, k4, s4, nil4, at4⟩
  have hS4 := HS3.out.kept k4 (fun h => h)
  go_wp2_with fail
  refine (setTargets16 S _ 0 most _ _ _ ta n5 tc _ hS4).mono ?_
  rintro e w5 ⟨rfl, hS5, k5⟩
  have hD5 : DataAt w5 w2.heap.size := (HD3.out.kept k4 (fun h => h)).kept k5 (fun e => by omega)
  have st5 : Sl .i64 w5 ta n5 tc l5 := k5.sl s4 (fun b hb e => by obtain ⟨off, hb⟩ := hb; have := (at4 _ hb).1; have := Z3.out; simp at *; omega)
  have tlt : ∀ x, ta = some x → x.block ≠ S ∧ x.block < w5.heap.size := fun x hx => by have h1 := at4 x hx; have h2 := Z3.out; have h3 := k5.size; omega
  have tnil : ta = none ↔ a5' = none := nil4
  have k25 : Kept (fun k => k = S) w2 w5 := (k23.same k4).trans k5 (fun _ _ h => h.elim) (fun _ _ h => h)
  have hlv5 := World.ownsRow_nil w5 w5.heap.size 52 4
  have ST5 : Hid (Sl .i64 w5 ta n5 tc l5) := st5
  have TLT : Hid (∀ x, ta = some x → x.block ≠ S ∧ x.block < w5.heap.size) := tlt
  have TNIL : Hid (ta = none ↔ a5' = none) := tnil
  have TN0 : Hid (ta = none → n5 = 0 ∧ tc = 0) := s4.nil
  have HD5 : Hid (DataAt w5 w2.heap.size) := hD5
  clear hS4 s4 nil4 at4 st5 tlt tnil k23 k4 k5 HS3 HD3 hD5
  go_wp2_with fail
  refine (push17 S _ w5.heap.size 0 0 most 0 colon true _ _ _ [] _ hS5 hlv5 (Nat.le_refl _) (by omega)).mono ?_
  rintro e w6 ⟨rfl, g6, cap6, hS6, hlv6, -, k6⟩
  have O0 : Hid (Open0 w6 S w2.heap.size w5.heap.size 0 most colon (.slice ta n5 tc)) := ⟨g6, cap6, hS6, hlv6⟩
  have K6 : Kept (Far S w5.heap.size) w5 w6 := k6.mono fun k hk h => h.elim .inl (fun e => by simp [Value.ownBlock] at e)
  clear hS6 hlv6 k6 hS5 hlv5 Z3
  have hz25 := k25.size
  have HDR : Hid (∀ wr, Kept (Far S w5.heap.size) w5 wr → DataAt wr w2.heap.size) := fun wr hk => HD5.out.kept hk (fun e => by rcases e with e | e; omega; have := lt_of_block HD5.out; omega)
  have HT5 : Hid (∀ wr, Kept (Far S w5.heap.size) w5 wr → Sl .i64 wr ta n5 tc l5) := fun wr hk => by
    refine hk.sl ST5.out (fun b hb e => ?_)
    obtain ⟨off, hb⟩ := hb
    have := TLT.out _ hb
    rcases e with e | e
    · exact this.1 e
    · have := this.2; simp at this; omega
  have H55 : Hid (∀ wr, Kept (Far S w5.heap.size) w5 wr → Sl .i64 wr a5' n5 c5' l5) := fun wr hk => by
    refine hk.sl (k25.sl S5.out (fun b hb e => ?_)) (fun b hb e => ?_)
    · obtain ⟨off, hb⟩ := hb; have h1 : b = _ := (AT2.out _ hb).1; have h2 := (AT2.out _ hb).2; omega
    · obtain ⟨off, hb⟩ := hb; have h1 : b = _ := (AT2.out _ hb).1; have h2 := (AT2.out _ hb).2; rcases e with e | e <;> omega
  have HBEL : Hid (∀ wz, Kept (Far S w5.heap.size) w5 wz → Below w.heap.size w wz) := fun wz hk => by
    refine Kept.below (p := Far S w5.heap.size) (k12.trans (r := Far S w5.heap.size) (k25.trans (r := Far S w5.heap.size) hk (fun _ _ h => .inl h) (fun _ _ h => h)) (fun _ _ h => h.elim) (fun _ _ h => h)) (Nat.le_refl _) (fun k h => ?_)
    rcases h with h | h <;> omega
  have hee : ta.isNone = a5'.isNone := by
    have := TNIL.out
    cases ta <;> cases a5' <;> simp_all
  have q1 := fun w => Lib.run_eql_slice_nil (P := Try.prog) w 29 3 a5' n5 c5' 0 0 Try.underlying29
  have q2 := fun w => Lib.run_eql_slice_nil (P := Try.prog) w 29 3 ta n5 tc 0 0 Try.underlying29
  have bee : (ta.isNone == a5'.isNone) = true := by rw [hee]; simp
  generalize ta.isNone = t1 at *
  generalize a5'.isNone = t2 at *
  clear hee
  have HK : Hid (Kept (Far S w5.heap.size) w5 w6) := K6
  clear K6
  go_wp2_with fail
  go_loopw [14] (fun iv wr => iv = .int .i64 0 ∧ wr = w6) (fun _ _ => 0)
  case atStart => exact ⟨rfl, rfl⟩
  case round =>
    obtain ⟨rfl, hwr⟩ := hrel
    subst hwr
    obtain ⟨g, cap, hS, hlv⟩ := O0.out
    have c3 := hS.c3
    have l3 := hlv.cellAt 3 (by omega)
    simp [lev] at l3
    have C : Hid (wr.cell? ⟨S, 3, none⟩ = some (.slice (some ⟨g, 0, none⟩) 1 cap) ∧ wr.cell? ⟨g, 3, none⟩ = some (.pointer none)) := ⟨c3, l3⟩
    clear hS hlv c3 l3
    go_wp2_with fail
    refine (count19 S 1 cap _ wr C.out.1).mono ?_
    rintro e w7 ⟨rfl, hw7⟩
    cases hw7
    go_wp2_with fail
    refine (hasNo20_0 S g 1 cap wr C.out.1 (by omega) C.out.2).mono ?_
    rintro e w7 ⟨rfl, hw7⟩
    cases hw7
    go_wp2_with fail
    refine (stepPos0 S _ _ 0 most colon 4 _ wr O0.out).mono ?_
    rintro e w8 ⟨rfl, O8, k8⟩
    have K8 : Hid (Kept (Far S w5.heap.size) w5 w8) := HK.out.trans k8 (fun _ _ h => h) (fun _ _ h => .inl h)
    have OH8 : Hid (Open0 w8 S w2.heap.size w5.heap.size 4 most colon (.slice ta n5 tc)) := O8
    clear O8 C HK k8
    by_cases hz : ci = 0
    · subst hz
      go_wp2_with fail
      refine (stepD_pop S _ _ most colon 4 _ w8 OH8.out (HDR.out w8 K8.out)).mono ?_
      rintro e w9 ⟨rfl, ⟨g9, cap9, hS9⟩, k9⟩
      have K9 : Hid (Kept (Far S w5.heap.size) w5 w9) := K8.out.trans k9 (fun _ _ h => h) (fun _ _ h => .inl h)
      have C : Hid (w9.cell? ⟨S, 3, none⟩ = some (.slice (some ⟨g9, 0, none⟩) 0 cap9) ∧ w9.cell? ⟨S, 6, none⟩ = some (.slice ta n5 tc)) := ⟨hS9.c3, hS9.c6⟩
      clear hS9 k9
      go_wp2_with fail
      refine (targets29 S n5 tc ta w9 C.out.2).mono ?_
      rintro e w10 ⟨rfl, hw⟩
      cases hw
      go_wp2_with fail
      refine (count19 S 0 cap9 _ w9 C.out.1).mono ?_
      rintro e w10 ⟨rfl, hw⟩
      cases hw
      go_wp2_with fail
      refine (eq26 _ _ tc c5' n5 l5 w9 (by omega) (HT5.out w9 K9.out) (H55.out w9 K9.out)).mono ?_
      rintro e w10 ⟨rfl, k10⟩
      go_wp2
      go_ret
      exact ⟨rfl, HBEL.out w10 (K9.out.trans k10 (fun _ _ h => h) (fun _ _ h => h.elim))⟩
    · have hz' : (ci == 0) = false := by simpa using hz
      have hpos : 0 < ci := by omega
      clear hz
      go_wp2_with fail
      refine (stepD_stay S _ _ most ci colon 4 _ w8 OH8.out (HDR.out w8 K8.out) hpos).mono ?_
      rintro e w9 ⟨rfl, ⟨g9, cap9, hS9⟩, k9⟩
      have K9 : Hid (Kept (Far S w5.heap.size) w5 w9) := K8.out.trans k9 (fun _ _ h => h) (fun _ _ h => h.elim)
      have C : Hid (w9.cell? ⟨S, 3, none⟩ = some (.slice (some ⟨g9, 0, none⟩) 1 cap9) ∧ w9.cell? ⟨S, 6, none⟩ = some (.slice ta n5 tc)) := ⟨hS9.c3, hS9.c6⟩
      clear hS9 k9
      go_wp2_with fail
      refine (targets29 S n5 tc ta w9 C.out.2).mono ?_
      rintro e w10 ⟨rfl, hw⟩
      cases hw
      go_wp2_with fail
      refine (count19 S 1 cap9 _ w9 C.out.1).mono ?_
      rintro e w10 ⟨rfl, hw⟩
      cases hw
      go_wp2_with fail
      refine (eq26 _ _ tc c5' n5 l5 w9 (by omega) (HT5.out w9 K9.out) (H55.out w9 K9.out)).mono ?_
      rintro e w10 ⟨rfl, k10⟩
      go_wp2
      go_ret
      exact ⟨rfl, HBEL.out w10 (K9.out.trans k10 (fun _ _ h => h) (fun _ _ h => h.elim))⟩
end Go.Proofs.Qxb6600513a
