/-
  FnEnterNestedListRuns walked: a run per item, two items or more.
-/
import Derived.Test.Qxb6600513aNestSteps
import Derived.Lib.SlBytesConst
namespace Go.Proofs.Qxb6600513a
open Go.RowKit
set_option linter.unusedVariables false
set_option linter.unusedSimpArgs false

set_option maxRecDepth 100000 in
set_option maxHeartbeats 4000000 in
theorem nest_negLong (a0 : Option Addr) (n0 c0 : Nat) (d colon most : Int) (l0 : List Int) (w : World) (h0 : Sl .i64 w a0 n0 c0 l0) (b0 : n0 ≤ 65536) (hp : 0 < n0) (hm : most ≤ 0) (htwo : 2 ≤ n0) (hd : 4 ≤ d) :
    Calls Try.prog 6 #[.slice a0 n0 c0, .int .i64 d, .int .i64 colon, .int .i64 most] w fun e w' => e = .returned (.bool true) ∧ Below w.heap.size w w' := by
  have kc := fun (w : World) (C : Array Value) (n c : Nat) => Lib.run_convert_bytes_const (P := Try.prog) w 22 5 C n c Try.underlying22 Try.underlying5
  have H30 : Hid (∀ w, Calls Try.prog 30 #[.slice a0 n0 c0, .int .i64 d, .int .i64 colon, .int .i64 most] w fun e w' => e = .returned (.bool true) ∧ w' = w) := fun w => bytes30_yes a0 n0 c0 d colon most w (by omega)
  have H0 : Hid (Sl .i64 w a0 n0 c0 l0) := h0
  clear h0
  have d1 : decide ((65536 : Int) < (n0 : Int)) = false := decide_eq_false (by omega)
  have d2 : decide (d < 4) = false := decide_eq_false (by omega)
  have hdd : (d != d) = false := by simp
  have hcc : (colon != colon) = false := by simp
  have hcc' : (colon == colon) = true := by simp
  go_enter Try.func6, Try.ntmps6
  go_wp2_with fail
  refine (H30.out _).mono ?_
  rintro e w1 ⟨rfl, hw⟩
  cases hw
  clear H30
  go_wp2_with fail
  refine (clone14x _ n0 c0 l0 _ (by omega) H0.out).mono ?_
  rintro e w1 ⟨a0', c0', rfl, k1, s1, nil1, at1⟩
  have S0 : Hid (Sl .i64 w1 a0' n0 c0' l0) := s1
  have AT1 : Hid (∀ x, a0' = some x → x.block = w.heap.size ∧ w.heap.size < w1.heap.size) := at1
  have z1 := k1.size
  clear s1 at1 nil1 H0
  go_wp2_with fail
  refine (newScan15x w1.heap.size most _).mono ?_
  rintro e w2 ⟨S, rfl, hSe, hS2, k2, z2⟩
  have hD2 : DataAt w2 w1.heap.size := k2.heap (heap_new w1 (.cells (dataNums.map (Value.int .u8)).toArray 5 (9, 10))) (fun h => h)
  have k12 : Kept no w1 w2 := ((Kept.refl no w1).alloc _).same k2
  have hSlt : w1.heap.size < S := by rw [hSe]; simp
  have hSB : S < w2.heap.size := lt_of_block hS2
  have hlv2 := World.ownsRow_nil w2 w2.heap.size 52 4
  have HD2 : Hid (DataAt w2 w1.heap.size) := hD2
  clear hSe z2 k2 hD2
  go_wp2_with fail
  refine (push17 S _ w2.heap.size 0 0 most 0 0 true _ _ _ [] _ hS2 hlv2 (Nat.le_refl _) (by omega)).mono ?_
  rintro e w3 ⟨rfl, g3, cap3, hS3, hlv3, -, k3⟩
  have O3 : Hid (Open0 w3 S w1.heap.size w2.heap.size 0 most 0 (.slice none 0 0)) := ⟨g3, cap3, hS3, hlv3⟩
  have K3 : Hid (Kept (Far S w2.heap.size) w2 w3) := k3.mono fun k hk h => h.elim .inl (fun e => by simp [Value.ownBlock] at e)
  have HDR : Hid (∀ wr, Kept (Far S w2.heap.size) w2 wr → DataAt wr w1.heap.size) := fun wr hk => HD2.out.kept hk (fun e => by rcases e with e | e; omega; have := lt_of_block HD2.out; omega)
  clear hS3 hlv3 k3 hS2 hlv2
  go_wp2_with fail
  refine (step0 S _ _ most 2 0 0 _ w3 O3.out (HDR.out w3 K3.out) K3.out.size (by omega)).mono ?_
  rintro e w4 ⟨rfl, O4, k4⟩
  have K4 : Hid (Kept (Far S w2.heap.size) w2 w4) := K3.out.same k4
  clear O3 K3 k4
  go_wp2_with fail
  refine (npush S _ _ most colon w4 O4 K4.out.size).mono ?_
  rintro e w5 ⟨rfl, G0, r0, rc0, N5, hBG0, hG0, hr0, k5⟩
  have HN5 : Hid (N0 w5 S w1.heap.size w2.heap.size w5.heap.size G0 r0 rc0 0 most colon) := N5
  have K5 : Hid (Kept (Far S w2.heap.size) w2 w5) := K4.out.same k5
  have hz5 := K5.out.size
  clear N5 K4 k5 O4
  have HBEL : Hid (∀ wz, Kept (Far S w2.heap.size) w2 wz → Below w.heap.size w wz) := fun wz hk => by
    refine Kept.below (p := Far S w2.heap.size) ((k1.same k12).trans (r := Far S w2.heap.size) hk (fun _ _ h => h.elim) (fun _ _ h => h)) (Nat.le_refl _) (fun k h => ?_)
    rcases h with h | h <;> omega
  have q2 := fun w => run_neq_slice_nil_any (P := Try.prog) w 29 3 none 0 0 0 0 Try.underlying29
  obtain ⟨bs, os, rfl, hcs⟩ := S0.out.cells hp
  have hbs0 := AT1.out _ rfl
  have hbs : bs ≤ w.heap.size := Nat.le_of_eq hbs0.1
  have hbs1 : w.heap.size < w1.heap.size := hbs0.2
  clear hbs0 hcs
  have HCS : Hid (∀ wr, Kept (Far S w2.heap.size) w2 wr → Sl .i64 wr (some ⟨bs, os, none⟩) n0 c0' l0) := fun wr hk => by
    refine hk.sl (S0.out.keptNo k12) (fun b hb e => ?_)
    obtain ⟨off, hb⟩ := hb; injection hb with hb; injection hb with hb; rcases e with e | e <;> omega
  have HWF : Hid (∀ x ∈ l0, (Lit.int .i64 x).wf = true) := S0.out.wf
  have HL0 : Hid (l0.length = n0) := S0.out.len
  go_wp2_with fail
  go_loopw [10] (fun iv wr => ∃ k : Nat, k ≤ n0 ∧ iv = .int .i64 k ∧ Hid ((k = 0 ∧ N0 wr S w1.heap.size w2.heap.size w5.heap.size G0 r0 rc0 0 most colon) ∨ (0 < k ∧ N1 wr S w1.heap.size w2.heap.size w5.heap.size G0 r0 rc0 0 most d colon k ((l0.take k).map (Value.int .i64)))) ∧ Hid (Kept (Far S w2.heap.size) w2 wr ∧ w5.heap.size ≤ wr.heap.size)) (fun iv _ => n0 - (intOf iv).toNat)
  case atStart => exact ⟨0, by omega, rfl, .inl ⟨rfl, HN5.out⟩, ⟨K5.out, Nat.le_refl _⟩⟩
  case round =>
    obtain ⟨k, hk, rfl, HO, HK⟩ := hrel
    by_cases hlt : k < n0
    · obtain ⟨b', o', he, hcell⟩ := (HCS.out wr HK.out.1).cells hp
      have hx : wr.cell? ⟨bs, os + k, none⟩ = some (.int .i64 (l0.getD k 0)) := by simp at he; obtain ⟨rfl, rfl⟩ := he; exact hcell k hlt
      clear he hcell
      rcases HO.out with ⟨hk0, O⟩ | ⟨hk0, O⟩
      · subst hk0
        simp only [Nat.add_zero] at hx
        have HT : Hid (l0.take 1 = [l0.getD 0 0]) := by
          show _ = _
          have hl : 0 < l0.length := by rw [HL0.out]; exact hlt
          rw [List.take_succ_eq_append_getElem hl]; simp [List.getElem?_eq_getElem hl]
        generalize hx0 : l0.getD 0 0 = x at *
        clear hx0
        have OH : Hid (N0 wr S w1.heap.size w2.heap.size w5.heap.size G0 r0 rc0 0 most colon) := O
        clear O HO
        go_wp2_with fail
        refine (nstep0 S _ _ _ G0 r0 rc0 most d colon x wr OH.out (HDR.out wr HK.out.1) hz5 HK.out.2 hd).mono ?_
        rintro e w7 ⟨rfl, O1, k7⟩
        go_wp2
        go_roundw
        case rel => exact ⟨1, by omega, rfl, .inr ⟨by omega, by rw [HT.out]; exact O1⟩, ⟨HK.out.1.same k7, Nat.le_trans HK.out.2 k7.size⟩⟩
        case measure => simp [intOf]; omega
      · have HT : Hid (l0.take (k + 1) = l0.take k ++ [l0.getD k 0]) := by
          show _ = _
          have hl : k < l0.length := by rw [HL0.out]; exact hlt
          rw [List.take_succ_eq_append_getElem hl]; simp [List.getElem?_eq_getElem hl]
        generalize l0.getD k 0 = x at hx HT
        have OH : Hid (N1 wr S w1.heap.size w2.heap.size w5.heap.size G0 r0 rc0 0 most d colon k ((l0.take k).map (Value.int .i64))) := O
        clear O HO
        go_wp2_with fail
        refine (nstepApp S _ _ _ G0 r0 rc0 k most d colon x _ wr OH.out (HDR.out wr HK.out.1) hz5 HK.out.2 hG0 hr0 (by omega) hm).mono ?_
        rintro e w7 ⟨rfl, O1, k7⟩
        go_wp2
        go_roundw
        case rel => exact ⟨k + 1, by omega, by go_num, .inr ⟨by omega, by rw [HT.out, List.map_append]; exact O1⟩, ⟨HK.out.1.same k7, Nat.le_trans HK.out.2 k7.size⟩⟩
        case measure => simp [intOf]; omega
    · obtain rfl : k = n0 := by omega
      have O : N1 wr S w1.heap.size w2.heap.size w5.heap.size G0 r0 rc0 0 most d colon k (l0.map (Value.int .i64)) := by
        rcases HO.out with ⟨h, _⟩ | ⟨_, h⟩
        · omega
        · rw [List.take_of_length_le (by rw [HL0.out]; exact Nat.le_refl _)] at h; exact h
      obtain ⟨g, cap, G, r, rc, hS, hlv, hL, hGB, hrv, hO⟩ := O
      have SR : Hid (Sl .i64 wr (some ⟨r, 0, none⟩) k rc l0) := Sl.of_owns hrv HWF.out
      have OH : Hid (N1 wr S w1.heap.size w2.heap.size w5.heap.size G0 r0 rc0 0 most d colon k (l0.map (Value.int .i64))) := ⟨g, cap, G, r, rc, hS, hlv, hL, hGB, hrv, hO⟩
      have l11 := hlv.cellAt 11 (by omega)
      simp [lev] at l11
      have C : Hid (wr.cell? ⟨S, 3, none⟩ = some (.slice (some ⟨g, 0, none⟩) 4 cap) ∧ wr.cell? ⟨g, 11, none⟩ = some (.pointer (some ⟨G, 0, none⟩)) ∧ wr.cell? ⟨G, 0, none⟩ = some (.int .i64 d) ∧ wr.cell? ⟨G, 1, none⟩ = some (.bool false) ∧ wr.cell? ⟨G, 3, none⟩ = some (.int .i64 colon) ∧ wr.cell? ⟨G, 4, none⟩ = some (.slice (some ⟨r, 0, none⟩) k rc) ∧ wr.cell? ⟨G, 5, none⟩ = some (.int .i64 0) ∧ wr.cell? ⟨G, 6, none⟩ = some (.int .i64 0)) := ⟨hS.c3, l11, hL.c0, hL.c1, hL.c3, hL.c4, hL.c5, hL.c6⟩
      clear hS hlv hL hrv hO l11 HO HN5
      have hk0 : ((k : Int) == 0) = false := by simp; omega
      have hk1 : (1 : Int) ≤ (k : Int) := by omega
      have hcc0 := (HCS.out wr HK.out.1).le
      go_wp2_with fail
      refine (count19 S 4 cap _ wr C.out.1).mono ?_
      rintro e w7 ⟨rfl, hw⟩
      cases hw
      go_wp2_with fail
      refine (hasYes20_2 S g 4 cap G wr C.out.1 (by omega) C.out.2.1).mono ?_
      rintro e w7 ⟨rfl, hw⟩
      cases hw
      go_wp2_with fail
      refine (lrpi24_2 S g 4 cap G false wr C.out.1 (by omega) C.out.2.1 C.out.2.2.2.1).mono ?_
      rintro e w7 ⟨rfl, hw⟩
      cases hw
      go_wp2_with fail
      refine (lindent23_2 S g 4 cap G d wr C.out.1 (by omega) C.out.2.1 C.out.2.2.1).mono ?_
      rintro e w7 ⟨rfl, hw⟩
      cases hw
      go_wp2_with fail
      refine (lanchor25_2 S g 4 cap G colon wr C.out.1 (by omega) C.out.2.1 C.out.2.2.2.2.1).mono ?_
      rintro e w7 ⟨rfl, hw⟩
      cases hw
      go_wp2_with fail
      refine (lrun31_2 S g 4 cap G 0 wr C.out.1 (by omega) C.out.2.1 C.out.2.2.2.2.2.2.1).mono ?_
      rintro e w7 ⟨rfl, hw⟩
      cases hw
      go_wp2_with fail
      refine (learlier32_2 S g 4 cap G 0 wr C.out.1 (by omega) C.out.2.1 C.out.2.2.2.2.2.2.2).mono ?_
      rintro e w7 ⟨rfl, hw⟩
      cases hw
      go_wp2_with fail
      refine (lruns27_2 S g 4 cap G (some ⟨r, 0, none⟩) k rc wr C.out.1 (by omega) C.out.2.1 C.out.2.2.2.2.2.1).mono ?_
      rintro e w7 ⟨rfl, hw⟩
      cases hw
      go_wp2_with fail
      refine (eq26 _ _ rc c0' k l0 wr (by omega) SR.out (HCS.out wr HK.out.1)).mono ?_
      rintro e w7 ⟨rfl, k7⟩
      have K7 : Hid (Kept (Far S w2.heap.size) w2 w7) := HK.out.1.trans k7 (fun _ _ h => h) (fun _ _ h => h.elim)
      go_wp2_with fail
      refine (npos1 S _ _ _ G0 r0 rc0 k 0 most d colon 4 _ w7 (OH.out.keptNo k7)).mono ?_
      rintro e w8 ⟨rfl, N8, k8⟩
      have K8 : Hid (Kept (Far S w2.heap.size) w2 w8) := K7.out.trans k8 (fun _ _ h => h) (fun _ _ h => .inl h)
      have HN8 : Hid (N1 w8 S w1.heap.size w2.heap.size w5.heap.size G0 r0 rc0 4 most d colon k (l0.map (Value.int .i64))) := N8
      clear N8 C SR OH k7 k8 K7
      go_wp2_with fail
      refine (nclose_long S _ _ _ G0 r0 rc0 k most d colon l0 w8 HN8.out HWF.out (HDR.out w8 K8.out) hG0 hd htwo hBG0).mono ?_
      rintro e w9 ⟨rfl, ⟨q, qc, r9, rc9, hF, hq9, hs9⟩, k9⟩
      have K9 : Hid (Kept (Far S w2.heap.size) w2 w9) := K8.out.same k9
      have SQ : Hid (Sl .i64 w9 (some ⟨r9, 0, none⟩) k rc9 l0) := hs9
      have CQ : Hid (w9.cell? ⟨q, 0, none⟩ = some (.bool false) ∧ w9.cell? ⟨q, 1, none⟩ = some (.int .i64 colon) ∧ w9.cell? ⟨q, 2, none⟩ = some (.slice (some ⟨r9, 0, none⟩) k rc9)) := ⟨hq9.cellAt 0 (by omega), hq9.cellAt 1 (by omega), hq9.cellAt 2 (by omega)⟩
      clear HN8 k9 K8 hq9 hs9
      obtain ⟨g9, cap9, hS9, hlv9, hO9⟩ := hF
      have lp3 := hlv9.cellAt 3 (by omega)
      have lp4 := hlv9.cellAt 4 (by omega)
      have lp5 := hlv9.cellAt 5 (by omega)
      have lr0 := hO9.2.cellAt 0 (by omega)
      simp [lev] at lp3 lp4 lp5 lr0
      have C9 : Hid (w9.cell? ⟨S, 3, none⟩ = some (.slice (some ⟨g9, 0, none⟩) 2 cap9) ∧ w9.cell? ⟨g9, 3, none⟩ = some (.pointer (some ⟨G0, 0, none⟩)) ∧ w9.cell? ⟨g9, 4, none⟩ = some (.int .i64 2) ∧ w9.cell? ⟨g9, 5, none⟩ = some (.bool false) ∧ w9.cell? ⟨G0, 1, none⟩ = some (.bool true) ∧ w9.cell? ⟨G0, 5, none⟩ = some (.int .i64 0) ∧ w9.cell? ⟨S, 6, none⟩ = some (.slice none 0 0) ∧ w9.cell? ⟨G0, 4, none⟩ = some (.slice (some ⟨r0, 0, none⟩) 1 rc0) ∧ w9.cell? ⟨r0, 0, none⟩ = some (.int .i64 0) ∧ w9.cell? ⟨S, 7, none⟩ = some (.slice (some ⟨q, 0, none⟩) 1 qc)) := ⟨hS9.c3, lp3, lp4, lp5, hO9.1.c1, hO9.1.c5, hS9.c6, hO9.1.c4, lr0, hS9.c7⟩
      clear hS9 hlv9 hO9 lp3 lp4 lp5 lr0
      go_wp2_with fail
      refine (count19 S 2 cap9 _ w9 C9.out.1).mono ?_
      rintro e w10 ⟨rfl, hw⟩
      cases hw
      go_wp2_with fail
      refine (key21_1 S g9 2 cap9 false w9 C9.out.1 (by omega) C9.out.2.2.2.1).mono ?_
      rintro e w10 ⟨rfl, hw⟩
      cases hw
      go_wp2_with fail
      refine (indent22_1 S g9 2 cap9 2 w9 C9.out.1 (by omega) C9.out.2.2.1).mono ?_
      rintro e w10 ⟨rfl, hw⟩
      cases hw
      go_wp2_with fail
      refine (hasYes20_0 S g9 2 cap9 G0 w9 C9.out.1 (by omega) C9.out.2.1).mono ?_
      rintro e w10 ⟨rfl, hw⟩
      cases hw
      go_wp2_with fail
      refine (lrpi24_0 S g9 2 cap9 G0 true w9 C9.out.1 (by omega) C9.out.2.1 C9.out.2.2.2.2.1).mono ?_
      rintro e w10 ⟨rfl, hw⟩
      cases hw
      go_wp2_with fail
      refine (lrun31_0 S g9 2 cap9 G0 0 w9 C9.out.1 (by omega) C9.out.2.1 C9.out.2.2.2.2.2.1).mono ?_
      rintro e w10 ⟨rfl, hw⟩
      cases hw
      go_wp2_with fail
      refine (targets29 S 0 0 none w9 C9.out.2.2.2.2.2.2.1).mono ?_
      rintro e w10 ⟨rfl, hw⟩
      cases hw
      go_wp2_with fail
      refine (lruns27_0 S g9 2 cap9 G0 (some ⟨r0, 0, none⟩) 1 rc0 w9 C9.out.1 (by omega) C9.out.2.1 C9.out.2.2.2.2.2.2.2.1).mono ?_
      rintro e w10 ⟨rfl, hw⟩
      cases hw
      have cr := C9.out.2.2.2.2.2.2.2.2.1
      go_wp2_with fail
      refine (longCount33 S 1 qc _ w9 C9.out.2.2.2.2.2.2.2.2.2).mono ?_
      rintro e w10 ⟨rfl, hw⟩
      cases hw
      go_wp2_with fail
      refine (longFlow34 S q 1 qc false w9 C9.out.2.2.2.2.2.2.2.2.2 (by omega) CQ.out.1).mono ?_
      rintro e w10 ⟨rfl, hw⟩
      cases hw
      go_wp2_with fail
      refine (longAnchor35 S q 1 qc colon w9 C9.out.2.2.2.2.2.2.2.2.2 (by omega) CQ.out.2.1).mono ?_
      rintro e w10 ⟨rfl, hw⟩
      cases hw
      go_wp2_with fail
      refine (longRuns36 S q 1 qc (some ⟨r9, 0, none⟩) k rc9 w9 C9.out.2.2.2.2.2.2.2.2.2 (by omega) CQ.out.2.2).mono ?_
      rintro e w10 ⟨rfl, hw⟩
      cases hw
      go_wp2_with fail
      refine (eq26 _ _ rc9 c0' k l0 w9 (by omega) SQ.out (HCS.out w9 K9.out)).mono ?_
      rintro e w10 ⟨rfl, k10⟩
      go_wp2
      go_ret
      exact ⟨rfl, HBEL.out w10 (K9.out.trans k10 (fun _ _ h => h) (fun _ _ h => h.elim))⟩
end Go.Proofs.Qxb6600513a
