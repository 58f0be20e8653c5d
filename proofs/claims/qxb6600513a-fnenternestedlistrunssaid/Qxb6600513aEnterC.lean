/-
  (*writtenScan).enter: a line that is no item closes a top list.
-/
import Derived.Test.Qxb6600513aEnterB
namespace Go.Proofs.Qxb6600513a
open Go.RowKit
set_option linter.unusedVariables false
set_option linter.unusedSimpArgs false

set_option maxHeartbeats 1000000 in
theorem enterC0 (S D G B : Nat) (most indent ci colon anchor start : Int) (lv gv : Value) (ta ra : Option Addr) (tn tc rn rc : Nat) (w : World) (ht : ta = none → tn = 0 ∧ tc = 0) (hS : ScanAt w S D 4 most lv (.slice ta tn tc) gv) (hD : DataAt w D) (hlv : w.ownsRow B 52 4 lv 2 (lev 0 true colon (some G) ++ lev indent false 0 none))
    (hL : ListAt w G indent true anchor (.slice ra rn rc) 0 0) (hci : ci ≤ indent) (tv' : Value) (HT : Hid ((if ta = none then Value.slice ra rn rc else .slice ta tn tc) = tv')) :
    Calls Try.prog 39 #[.pointer (some ⟨S, 0, none⟩), .int .i64 start, .int .i64 ci] w fun e w' => e = .returned (.int .i64 (-1)) ∧
      ∃ g cap, ScanAt w' S D 4 most (.slice (some ⟨g, 0, none⟩) 0 cap) tv' gv ∧ Kept (fun k => k = S) w w' := by
  obtain ⟨gl, cp, rfl, hBg, hgl⟩ := hlv.form (by omega)
  have hne : gl ≠ S := fun e => owns_ne_scan hlv hS (by decide) (by simp [Value.ownBlock, e])
  have hSG : S ≠ G := fun e => by have h1 := hL; rw [← e] at h1; have h2 := hS; unfold ListAt at h1; unfold ScanAt at h2; rw [h1] at h2; simp at h2
  go_enter Try.func39, Try.ntmps39
  go_wp2_with fail
  refine (has41_not S D most _ _ gv _ hS hD).mono ?_
  rintro e w1 ⟨rfl, hk1⟩
  have hS1 := hS.kept hk1 (fun h => h)
  have hL1 := hL.kept hk1 (fun h => h)
  have hlv1 := hk1.owns hlv (fun _ _ h => h)
  have c3 := hS1.c3
  have f3 := hS1.fr 3
  have lX0 := hlv1.cellAt 4 (by omega)
  have lX1 := hlv1.cellAt 5 (by omega)
  have lX3 := hlv1.cellAt 7 (by omega)
  simp [lev] at lX0 lX1 lX3
  have hcp : 2 ≤ cp := by
    rcases hlv1.2 with ⟨h, _⟩ | ⟨g', cap', cur, h, _, _, h2, _⟩
    · simp at h
    · simp at h; omega
  have HL1 : Hid (ListAt w1 G indent true anchor (.slice ra rn rc) 0 0) := hL1
  have HLV1 : Hid (w1.ownsRow B 52 4 (.slice (some ⟨gl, 0, none⟩) 2 cp) 2 (lev 0 true colon (some G) ++ lev indent false 0 none)) := hlv1
  have HS1 : Hid (ScanAt w1 S D 4 most (.slice (some ⟨gl, 0, none⟩) 2 cp) (.slice ta tn tc) gv) := hS1
  clear hS1 hL1 hlv1 hS hL hlv hD
  go_wp2_with fail
  refine wp_loop_rounds 3 ?_
  rw [rounds_succ]
  go_wp2_with fail
  go_quiet (fail)
  go_wp2_with fail
  refine (ends42_nokey gl 4 indent ci false _ (by exact lX0) (by exact lX1)).mono ?_
  rintro e w2 ⟨rfl, hw2⟩
  cases hw2
  rw [show decide (ci ≤ indent) = true from by simpa using hci]
  go_wp2_with fail
  go_region
  go_wp2_with fail
  obtain ⟨w2, hw2⟩ : ∃ w2, w2 = (w1.drewN (nq + 1)).setCell ⟨S, 3, none⟩ (.slice (some ⟨gl, 0, none⟩) 1 cp) := ⟨_, rfl⟩
  rw [← hw2]
  have K2 : Kept (fun k => k = S) w1 w2 := by rw [hw2]; exact Kept.setCell (p := fun k => k = S) ((Kept.refl _ w1).drewN _) (q := ⟨S, 3, none⟩) (.inl rfl) _
  have hS2 : ScanAt w2 S D 4 most (.slice (some ⟨gl, 0, none⟩) 1 cp) (.slice ta tn tc) gv := by rw [hw2]; exact ScanAt.set3 (w := w1.drewN (nq + 1)) HS1.out _
  have hlv2 : w2.ownsRow B 52 4 (.slice (some ⟨gl, 0, none⟩) 1 cp) 1 (lev 0 true colon (some G)) := K2.owns (ownsRow_pop (n := 1) rfl HLV1.out) (fun k hk e => hne (by simp [Value.ownBlock] at hk; omega))
  have hL2 : ListAt w2 G indent true anchor (.slice ra rn rc) 0 0 := HL1.out.kept K2 (fun e => hSG e.symm)
  have hk2 := hk1.trans (r := fun k => k = S) K2 (fun _ _ h => h.elim) (fun _ _ h => h)
  clear hw2 K2 HS1 HLV1 HL1 c3 f3 lX0 lX1 lX3 hk1
  have c3 := hS2.c3
  have lK1 := hlv2.cellAt 1 (by omega)
  have lK3 := hlv2.cellAt 3 (by omega)
  have gL0 := hL2.c0
  simp [lev] at lK1 lK3
  have HS2 : Hid (ScanAt w2 S D 4 most (.slice (some ⟨gl, 0, none⟩) 1 cp) (.slice ta tn tc) gv) := hS2
  have HL2 : Hid (ListAt w2 G indent true anchor (.slice ra rn rc) 0 0) := hL2
  clear hS2 hlv2 hL2
  rw [rounds_succ]
  go_wp2_with fail
  go_quiet (fail)
  go_wp2_with fail
  refine (ends42_list gl 0 G indent ci false _ (by exact lK1) (by exact lK3) (by exact gL0)).mono ?_
  rintro e w3 ⟨rfl, hw3⟩
  cases hw3
  rw [show endsP ci indent false = true from by simp [endsP]; omega]
  go_wp2_with fail
  refine (close43_rpi S D G 4 most indent anchor _ gv ra rn rc ta tn tc ht _ (by exact HS2.out) (by exact HL2.out)).mono ?_
  rintro e w4 ⟨rfl, hS4, hk4⟩
  rw [HT.out] at hS4
  have K4 : Kept (fun k => k = S) w2 w4 := ((Kept.refl _ w2).drewN _).same hk4
  have c3 := hS4.c3
  have f3 := hS4.fr 3
  have hk4' := hk2.same K4
  have HS4 : Hid (ScanAt w4 S D 4 most (.slice (some ⟨gl, 0, none⟩) 1 cp) tv' gv) := hS4
  clear hS4 hk4 hk2 K4 HS2 HL2 lK1 lK3 gL0
  go_wp2_with fail
  go_region
  go_wp2_with fail
  rw [rounds_succ]
  go_wp2
  go_ret
  have q := Kept.setCell (p := fun k => k = S) hk4' (q := ⟨S, 3, none⟩) (.inl rfl) (.slice (some ⟨gl, 0, none⟩) 0 cp)
  refine ⟨rfl, gl, cp, ?_, ?_⟩
  · exact HS4.out.set3 _
  · first | exact q | exact q.drew | exact q.drewN _

set_option maxHeartbeats 1000000 in
theorem enterD0_pop (S D B : Nat) (most colon start : Int) (lv tv gv : Value) (w : World) (hS : ScanAt w S D 4 most lv tv gv) (hD : DataAt w D) (hlv : w.ownsRow B 52 4 lv 1 (lev 0 true colon none)) :
    Calls Try.prog 39 #[.pointer (some ⟨S, 0, none⟩), .int .i64 start, .int .i64 0] w fun e w' => e = .returned (.int .i64 (-1)) ∧
      ∃ g cap, ScanAt w' S D 4 most (.slice (some ⟨g, 0, none⟩) 0 cap) tv gv ∧ Kept (fun k => k = S) w w' := by
  obtain ⟨gl, cp, rfl, hBg, hgl⟩ := hlv.form (by omega)
  have hne : gl ≠ S := fun e => owns_ne_scan hlv hS (by decide) (by simp [Value.ownBlock, e])
  go_enter Try.func39, Try.ntmps39
  go_wp2_with fail
  refine (has41_not S D most _ _ gv _ hS hD).mono ?_
  rintro e w1 ⟨rfl, hk1⟩
  have hS1 := hS.kept hk1 (fun h => h)
  have hlv1 := hk1.owns hlv (fun _ _ h => h)
  have c3 := hS1.c3
  have f3 := hS1.fr 3
  have lX0 := hlv1.cellAt 0 (by omega)
  have lX1 := hlv1.cellAt 1 (by omega)
  have lX3 := hlv1.cellAt 3 (by omega)
  simp [lev] at lX0 lX1 lX3
  have hcp : 1 ≤ cp := by
    rcases hlv1.2 with ⟨h, _⟩ | ⟨g', cap', cur, h, _, _, h2, _⟩
    · simp at h
    · simp at h; omega
  have HS1 : Hid (ScanAt w1 S D 4 most (.slice (some ⟨gl, 0, none⟩) 1 cp) tv gv) := hS1
  clear hS1 hlv1 hS hlv hD
  go_wp2_with fail
  refine wp_loop_rounds 2 ?_
  rw [rounds_succ]
  go_wp2_with fail
  go_quiet (fail)
  go_wp2_with fail
  refine (ends42_nolist gl 0 0 0 false _ (by exact lX0) (by exact lX1) (by exact lX3)).mono ?_
  rintro e w2 ⟨rfl, hw2⟩
  cases hw2
  rw [show endsP 0 0 false = true from rfl]
  go_wp2_with fail
  go_region
  go_wp2_with fail
  rw [rounds_succ]
  go_wp2
  go_ret
  have q := Kept.setCell (p := fun k => k = S) (hk1.mono fun _ _ h => h.elim) (q := ⟨S, 3, none⟩) (.inl rfl) (.slice (some ⟨gl, 0, none⟩) 0 cp)
  refine ⟨rfl, gl, cp, ?_, ?_⟩
  · exact HS1.out.set3 _
  · first | exact q | exact q.drew | exact q.drewN _

set_option maxHeartbeats 1000000 in
theorem enterD0_stay (S D B : Nat) (most ci colon start : Int) (lv tv gv : Value) (w : World) (hS : ScanAt w S D 4 most lv tv gv) (hD : DataAt w D) (hlv : w.ownsRow B 52 4 lv 1 (lev 0 true colon none)) (hci : 0 < ci) :
    Calls Try.prog 39 #[.pointer (some ⟨S, 0, none⟩), .int .i64 start, .int .i64 ci] w fun e w' => e = .returned (.int .i64 (-1)) ∧ Kept no w w' := by
  obtain ⟨gl, cp, rfl, hBg, hgl⟩ := hlv.form (by omega)
  go_enter Try.func39, Try.ntmps39
  go_wp2_with fail
  refine (has41_not S D most _ _ gv _ hS hD).mono ?_
  rintro e w1 ⟨rfl, hk1⟩
  have hS1 := hS.kept hk1 (fun h => h)
  have hlv1 := hk1.owns hlv (fun _ _ h => h)
  have c3 := hS1.c3
  have lX0 := hlv1.cellAt 0 (by omega)
  have lX1 := hlv1.cellAt 1 (by omega)
  have lX3 := hlv1.cellAt 3 (by omega)
  simp [lev] at lX0 lX1 lX3
  clear hS1 hlv1 hS hlv hD
  go_wp2_with fail
  refine wp_loop_rounds 1 ?_
  rw [rounds_succ]
  go_wp2_with fail
  go_quiet (fail)
  go_wp2_with fail
  refine (ends42_nolist gl 0 0 ci false _ (by exact lX0) (by exact lX1) (by exact lX3)).mono ?_
  rintro e w2 ⟨rfl, hw2⟩
  cases hw2
  rw [show endsP ci 0 false = false from by simp [endsP]; omega]
  go_wp2
  go_ret
  exact ⟨rfl, hk1.drewN _⟩
end Go.Proofs.Qxb6600513a
