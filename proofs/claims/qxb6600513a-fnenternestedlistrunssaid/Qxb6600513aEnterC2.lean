/-
  (*writtenScan).enter: a line that is no item closes a nested list.
-/
import Derived.Test.Qxb6600513aClose2
import Derived.Test.Qxb6600513aEnterC
namespace Go.Proofs.Qxb6600513a
open Go.RowKit
set_option linter.unusedVariables false
set_option linter.unusedSimpArgs false

set_option maxHeartbeats 1000000 in
theorem enterC2_one (S D G G0 B : Nat) (most d colon anchor ind0 anchor0 start : Int) (rpi0 : Bool) (lv tv rv0 : Value) (ra : Option Addr) (rn rc : Nat) (w : World) (hS : ScanAt w S D 4 most lv tv (.slice none 0 0)) (hD : DataAt w D) (hlv : w.ownsRow B 52 4 lv 4 (lev 0 true 0 (some G0) ++ lev 2 false 0 none ++ lev 4 true colon (some G) ++ lev d false 0 none))
    (hL : ListAt w G d false anchor (.slice ra rn rc) 0 0) (hL0 : ListAt w G0 ind0 rpi0 anchor0 rv0 0 0) (hGG : G ≠ G0) (hd : 4 ≤ d) (hr : rn ≤ 1) :
    Calls Try.prog 39 #[.pointer (some ⟨S, 0, none⟩), .int .i64 start, .int .i64 4] w fun e w' => e = .returned (.int .i64 (-1)) ∧
      ∃ g cap, (ScanAt w' S D 4 most (.slice (some ⟨g, 0, none⟩) 2 cap) tv (.slice none 0 0)) ∧ w'.ownsRow B 52 4 (.slice (some ⟨g, 0, none⟩) 2 cap) 2 (lev 0 true 0 (some G0) ++ lev 2 false 0 none) ∧ ListAt w' G0 ind0 rpi0 anchor0 rv0 0 0 ∧ Kept (fun k => k = S ∨ k = G0) w w' := by
  obtain ⟨gl, cp, rfl, hBg, hgl⟩ := hlv.form (by omega)
  have hne : gl ≠ S := fun e => owns_ne_scan hlv hS (by decide) (by simp [Value.ownBlock, e])
  have hSG : S ≠ G := scan_ne_list hS hL
  have hSG0 : S ≠ G0 := scan_ne_list hS hL0
  have hlG0 : gl ≠ G0 := fun e => owns_ne hlv hL0 (by decide) (by simp [Value.ownBlock, e])
  go_enter Try.func39, Try.ntmps39
  go_wp2_with fail
  refine (has41_not S D most _ _ _ _ hS hD).mono ?_
  rintro e w1 ⟨rfl, hk1⟩
  have hS1 := hS.kept hk1 (fun h => h)
  have hL1 := hL.kept hk1 (fun h => h)
  have hL01 := hL0.kept hk1 (fun h => h)
  have hlv1 := hk1.owns hlv (fun _ _ h => h)
  have c3 := hS1.c3
  have f3 := hS1.fr 3
  have lX0 := hlv1.cellAt 12 (by omega)
  have lX1 := hlv1.cellAt 13 (by omega)
  have lX3 := hlv1.cellAt 15 (by omega)
  simp [lev] at lX0 lX1 lX3
  have hcp : 4 ≤ cp := by
    rcases hlv1.2 with ⟨h, _⟩ | ⟨g', cap', cur, h, _, _, h2, _⟩
    · simp at h
    · simp at h; omega
  have HL1 : Hid (ListAt w1 G d false anchor (.slice ra rn rc) 0 0) := hL1
  have HL01 : Hid (ListAt w1 G0 ind0 rpi0 anchor0 rv0 0 0) := hL01
  have HLV1 : Hid (w1.ownsRow B 52 4 (.slice (some ⟨gl, 0, none⟩) 4 cp) 4 (lev 0 true 0 (some G0) ++ lev 2 false 0 none ++ lev 4 true colon (some G) ++ lev d false 0 none)) := hlv1
  have HS1 : Hid (ScanAt w1 S D 4 most (.slice (some ⟨gl, 0, none⟩) 4 cp) tv (.slice none 0 0)) := hS1
  clear hS1 hL1 hL01 hlv1 hS hL hL0 hlv hD
  go_wp2_with fail
  refine wp_loop_rounds 3 ?_
  rw [rounds_succ]
  go_wp2_with fail
  go_quiet (fail)
  go_wp2_with fail
  refine (ends42_nokey gl 12 d 4 false _ (by exact lX0) (by exact lX1)).mono ?_
  rintro e w2 ⟨rfl, hw2⟩
  cases hw2
  rw [show decide (4 ≤ d) = true from by simpa using hd]
  go_wp2_with fail
  go_region
  go_wp2_with fail
  obtain ⟨w2, hw2⟩ : ∃ w2, w2 = (w1.drewN (nq + 1)).setCell ⟨S, 3, none⟩ (.slice (some ⟨gl, 0, none⟩) 3 cp) := ⟨_, rfl⟩
  rw [← hw2]
  have K2 : Kept (fun k => k = S) w1 w2 := by rw [hw2]; exact Kept.setCell (p := fun k => k = S) ((Kept.refl _ w1).drewN _) (q := ⟨S, 3, none⟩) (.inl rfl) _
  have hS2 : ScanAt w2 S D 4 most (.slice (some ⟨gl, 0, none⟩) 3 cp) tv (.slice none 0 0) := by rw [hw2]; exact ScanAt.set3 (w := w1.drewN (nq + 1)) HS1.out _
  have hlv2 : w2.ownsRow B 52 4 (.slice (some ⟨gl, 0, none⟩) 3 cp) 3 (lev 0 true 0 (some G0) ++ lev 2 false 0 none ++ lev 4 true colon (some G)) := K2.owns (ownsRow_pop (n := 3) rfl HLV1.out) (fun k hk e => hne (by simp [Value.ownBlock] at hk; omega))
  have hL2 : ListAt w2 G d false anchor (.slice ra rn rc) 0 0 := HL1.out.kept K2 (fun e => hSG e.symm)
  have hL02 : ListAt w2 G0 ind0 rpi0 anchor0 rv0 0 0 := HL01.out.kept K2 (fun e => hSG0 e.symm)
  have hk2 := hk1.trans (r := fun k => k = S) K2 (fun _ _ h => h.elim) (fun _ _ h => h)
  clear hw2 K2 HS1 HLV1 HL1 HL01 c3 f3 lX0 lX1 lX3 hk1
  have c3 := hS2.c3
  have lK1 := hlv2.cellAt 9 (by omega)
  have lK3 := hlv2.cellAt 11 (by omega)
  have gL0 := hL2.c0
  simp [lev] at lK1 lK3
  have HS2 : Hid (ScanAt w2 S D 4 most (.slice (some ⟨gl, 0, none⟩) 3 cp) tv (.slice none 0 0)) := hS2
  have HL2 : Hid (ListAt w2 G d false anchor (.slice ra rn rc) 0 0) := hL2
  have HL02 : Hid (ListAt w2 G0 ind0 rpi0 anchor0 rv0 0 0) := hL02
  have HLV2 : Hid (w2.ownsRow B 52 4 (.slice (some ⟨gl, 0, none⟩) 3 cp) 3 (lev 0 true 0 (some G0) ++ lev 2 false 0 none ++ lev 4 true colon (some G))) := hlv2
  clear hS2 hlv2 hL2 hL02
  rw [rounds_succ]
  go_wp2_with fail
  go_quiet (fail)
  go_wp2_with fail
  refine (ends42_list gl 8 G d 4 false _ (by exact lK1) (by exact lK3) (by exact gL0)).mono ?_
  rintro e w3 ⟨rfl, hw3⟩
  cases hw3
  rw [show endsP 4 d false = true from by simp [endsP]; omega]
  go_wp2_with fail
  refine (close43_one S D G 4 most d anchor _ tv _ ra rn rc _ (by exact HS2.out) (by exact HL2.out) hr).mono ?_
  rintro e w4 ⟨rfl, hk4⟩
  have K4 : Kept (fun k => k = S ∨ k = G0) w2 w4 := (((Kept.refl no w2).drewN _).same hk4).mono fun _ _ h => h.elim
  have k4n : Kept no w2 w4 := ((Kept.refl no w2).drewN _).same hk4
  have hS4 := HS2.out.kept k4n (fun h => h)
  have hL04 := HL02.out.kept k4n (fun h => h)
  clear k4n
  have hlv4 : w4.ownsRow B 52 4 (.slice (some ⟨gl, 0, none⟩) 3 cp) 3 (lev 0 true 0 (some G0) ++ lev 2 false 0 none ++ lev 4 true colon (some G)) := K4.owns HLV2.out (fun k hk e => by simp [Value.ownBlock] at hk; subst hk; exact e.elim hne hlG0)
  have hk4' : Kept (fun k => k = S ∨ k = G0) w w4 := hk2.trans K4 (fun _ _ h => .inl h) (fun _ _ h => h)
  have c3 := hS4.c3
  have f3 := hS4.fr 3
  have HS4 : Hid (ScanAt w4 S D 4 most (.slice (some ⟨gl, 0, none⟩) 3 cp) tv (.slice none 0 0)) := hS4
  have HLV4 : Hid (w4.ownsRow B 52 4 (.slice (some ⟨gl, 0, none⟩) 3 cp) 3 (lev 0 true 0 (some G0) ++ lev 2 false 0 none ++ lev 4 true colon (some G))) := hlv4
  have HL04 : Hid (ListAt w4 G0 ind0 rpi0 anchor0 rv0 0 0) := hL04
  clear hS4 hk4 hk2 K4 HS2 HL2 HLV2 HL02 lK1 lK3 gL0 hlv4 hL04
  go_wp2_with fail
  go_region
  go_wp2_with fail
  obtain ⟨w5, hw5⟩ : ∃ w5, w5 = w4.drew.setCell ⟨S, 3, none⟩ (.slice (some ⟨gl, 0, none⟩) 2 cp) := ⟨_, rfl⟩
  first | rw [show (w4.setCell ⟨S, 3, none⟩ (.slice (some ⟨gl, 0, none⟩) 2 cp)).drew = w5 from hw5.symm] | rw [← hw5]
  have K5 : Kept (fun k => k = S) w4 w5 := by rw [hw5]; exact Kept.setCell (p := fun k => k = S) (Kept.refl _ w4).drew (q := ⟨S, 3, none⟩) (.inl rfl) _
  have hS5 : ScanAt w5 S D 4 most (.slice (some ⟨gl, 0, none⟩) 2 cp) tv (.slice none 0 0) := by rw [hw5]; exact ScanAt.set3 (w := w4.drew) HS4.out _
  have hlv5 : w5.ownsRow B 52 4 (.slice (some ⟨gl, 0, none⟩) 2 cp) 2 (lev 0 true 0 (some G0) ++ lev 2 false 0 none) := K5.owns (ownsRow_pop (n := 2) rfl HLV4.out) (fun k hk e => hne (by simp [Value.ownBlock] at hk; omega))
  have hL05 : ListAt w5 G0 ind0 rpi0 anchor0 rv0 0 0 := HL04.out.kept K5 (fun e => hSG0 e.symm)
  have hk5 := hk4'.trans (r := fun k => k = S ∨ k = G0) K5 (fun _ _ h => h) (fun _ _ h => .inl h)
  skip
  clear hw5 K5 HS4 HLV4 HL04 c3 f3 hk4'
  have c3 := hS5.c3
  have m0 := hlv5.cellAt 4 (by omega)
  have m1 := hlv5.cellAt 5 (by omega)
  simp [lev] at m0 m1
  have HS5 : Hid (ScanAt w5 S D 4 most (.slice (some ⟨gl, 0, none⟩) 2 cp) tv (.slice none 0 0)) := hS5
  have HLV5 : Hid (w5.ownsRow B 52 4 (.slice (some ⟨gl, 0, none⟩) 2 cp) 2 (lev 0 true 0 (some G0) ++ lev 2 false 0 none)) := hlv5
  have HL05 : Hid (ListAt w5 G0 ind0 rpi0 anchor0 rv0 0 0) := hL05
  skip
  skip
  clear hS5 hlv5 hL05
  rw [rounds_succ]
  go_wp2_with fail
  go_quiet (fail)
  go_wp2_with fail
  refine (ends42_nokey gl 4 2 4 false _ (by exact m0) (by exact m1)).mono ?_
  rintro e w6 ⟨rfl, hw6⟩
  cases hw6
  rw [show decide ((4 : Int) ≤ 2) = false from rfl]
  go_wp2
  go_ret
  exact ⟨rfl, gl, cp, HS5.out, HLV5.out, HL05.out, hk5.drewN _⟩

set_option maxHeartbeats 1000000 in
theorem enterC2_long (S D G G0 B : Nat) (most d colon anchor ind0 anchor0 start : Int) (rpi0 : Bool) (lv tv rv0 : Value) (ra : Option Addr) (rn rc : Nat) (w : World) (hS : ScanAt w S D 4 most lv tv (.slice none 0 0)) (hD : DataAt w D) (hlv : w.ownsRow B 52 4 lv 4 (lev 0 true 0 (some G0) ++ lev 2 false 0 none ++ lev 4 true colon (some G) ++ lev d false 0 none))
    (hL : ListAt w G d false anchor (.slice ra rn rc) 0 0) (hL0 : ListAt w G0 ind0 rpi0 anchor0 rv0 0 0) (hGG : G ≠ G0) (hd : 4 ≤ d) (hr : 2 ≤ rn) :
    Calls Try.prog 39 #[.pointer (some ⟨S, 0, none⟩), .int .i64 start, .int .i64 4] w fun e w' => e = .returned (.int .i64 (-1)) ∧
      ∃ g cap, (∃ q qc, ScanAt w' S D 4 most (.slice (some ⟨g, 0, none⟩) 2 cap) tv (.slice (some ⟨q, 0, none⟩) 1 qc) ∧ w'.ownsRow w.heap.size 55 3 (.slice (some ⟨q, 0, none⟩) 1 qc) 1 [.bool false, .int .i64 anchor, .slice ra rn rc]) ∧ w'.ownsRow B 52 4 (.slice (some ⟨g, 0, none⟩) 2 cap) 2 (lev 0 true 0 (some G0) ++ lev 2 false 0 none) ∧ ListAt w' G0 ind0 rpi0 anchor0 rv0 0 0 ∧ Kept (fun k => k = S ∨ k = G0) w w' := by
  obtain ⟨gl, cp, rfl, hBg, hgl⟩ := hlv.form (by omega)
  have hne : gl ≠ S := fun e => owns_ne_scan hlv hS (by decide) (by simp [Value.ownBlock, e])
  have hSG : S ≠ G := scan_ne_list hS hL
  have hSG0 : S ≠ G0 := scan_ne_list hS hL0
  have hlG0 : gl ≠ G0 := fun e => owns_ne hlv hL0 (by decide) (by simp [Value.ownBlock, e])
  go_enter Try.func39, Try.ntmps39
  go_wp2_with fail
  refine (has41_not S D most _ _ _ _ hS hD).mono ?_
  rintro e w1 ⟨rfl, hk1⟩
  have hS1 := hS.kept hk1 (fun h => h)
  have hL1 := hL.kept hk1 (fun h => h)
  have hL01 := hL0.kept hk1 (fun h => h)
  have hlv1 := hk1.owns hlv (fun _ _ h => h)
  have c3 := hS1.c3
  have f3 := hS1.fr 3
  have lX0 := hlv1.cellAt 12 (by omega)
  have lX1 := hlv1.cellAt 13 (by omega)
  have lX3 := hlv1.cellAt 15 (by omega)
  simp [lev] at lX0 lX1 lX3
  have hcp : 4 ≤ cp := by
    rcases hlv1.2 with ⟨h, _⟩ | ⟨g', cap', cur, h, _, _, h2, _⟩
    · simp at h
    · simp at h; omega
  have HL1 : Hid (ListAt w1 G d false anchor (.slice ra rn rc) 0 0) := hL1
  have HL01 : Hid (ListAt w1 G0 ind0 rpi0 anchor0 rv0 0 0) := hL01
  have HLV1 : Hid (w1.ownsRow B 52 4 (.slice (some ⟨gl, 0, none⟩) 4 cp) 4 (lev 0 true 0 (some G0) ++ lev 2 false 0 none ++ lev 4 true colon (some G) ++ lev d false 0 none)) := hlv1
  have HS1 : Hid (ScanAt w1 S D 4 most (.slice (some ⟨gl, 0, none⟩) 4 cp) tv (.slice none 0 0)) := hS1
  clear hS1 hL1 hL01 hlv1 hS hL hL0 hlv hD
  go_wp2_with fail
  refine wp_loop_rounds 3 ?_
  rw [rounds_succ]
  go_wp2_with fail
  go_quiet (fail)
  go_wp2_with fail
  refine (ends42_nokey gl 12 d 4 false _ (by exact lX0) (by exact lX1)).mono ?_
  rintro e w2 ⟨rfl, hw2⟩
  cases hw2
  rw [show decide (4 ≤ d) = true from by simpa using hd]
  go_wp2_with fail
  go_region
  go_wp2_with fail
  obtain ⟨w2, hw2⟩ : ∃ w2, w2 = (w1.drewN (nq + 1)).setCell ⟨S, 3, none⟩ (.slice (some ⟨gl, 0, none⟩) 3 cp) := ⟨_, rfl⟩
  rw [← hw2]
  have K2 : Kept (fun k => k = S) w1 w2 := by rw [hw2]; exact Kept.setCell (p := fun k => k = S) ((Kept.refl _ w1).drewN _) (q := ⟨S, 3, none⟩) (.inl rfl) _
  have hS2 : ScanAt w2 S D 4 most (.slice (some ⟨gl, 0, none⟩) 3 cp) tv (.slice none 0 0) := by rw [hw2]; exact ScanAt.set3 (w := w1.drewN (nq + 1)) HS1.out _
  have hlv2 : w2.ownsRow B 52 4 (.slice (some ⟨gl, 0, none⟩) 3 cp) 3 (lev 0 true 0 (some G0) ++ lev 2 false 0 none ++ lev 4 true colon (some G)) := K2.owns (ownsRow_pop (n := 3) rfl HLV1.out) (fun k hk e => hne (by simp [Value.ownBlock] at hk; omega))
  have hL2 : ListAt w2 G d false anchor (.slice ra rn rc) 0 0 := HL1.out.kept K2 (fun e => hSG e.symm)
  have hL02 : ListAt w2 G0 ind0 rpi0 anchor0 rv0 0 0 := HL01.out.kept K2 (fun e => hSG0 e.symm)
  have hk2 := hk1.trans (r := fun k => k = S) K2 (fun _ _ h => h.elim) (fun _ _ h => h)
  clear hw2 K2 HS1 HLV1 HL1 HL01 c3 f3 lX0 lX1 lX3 hk1
  have c3 := hS2.c3
  have lK1 := hlv2.cellAt 9 (by omega)
  have lK3 := hlv2.cellAt 11 (by omega)
  have gL0 := hL2.c0
  simp [lev] at lK1 lK3
  have HS2 : Hid (ScanAt w2 S D 4 most (.slice (some ⟨gl, 0, none⟩) 3 cp) tv (.slice none 0 0)) := hS2
  have HL2 : Hid (ListAt w2 G d false anchor (.slice ra rn rc) 0 0) := hL2
  have HL02 : Hid (ListAt w2 G0 ind0 rpi0 anchor0 rv0 0 0) := hL02
  have HLV2 : Hid (w2.ownsRow B 52 4 (.slice (some ⟨gl, 0, none⟩) 3 cp) 3 (lev 0 true 0 (some G0) ++ lev 2 false 0 none ++ lev 4 true colon (some G))) := hlv2
  clear hS2 hlv2 hL2 hL02
  rw [rounds_succ]
  go_wp2_with fail
  go_quiet (fail)
  go_wp2_with fail
  refine (ends42_list gl 8 G d 4 false _ (by exact lK1) (by exact lK3) (by exact gL0)).mono ?_
  rintro e w3 ⟨rfl, hw3⟩
  cases hw3
  rw [show endsP 4 d false = true from by simp [endsP]; omega]
  go_wp2_with fail
  refine (close43_long S D G G0 B 4 most d anchor ind0 anchor0 colon rpi0 _ tv rv0 ra rn rc _ (by exact HS2.out) (by exact HL2.out) hr (by exact HLV2.out) (by exact HL02.out) hGG).mono ?_
  rintro e w4 ⟨rfl, q, qc, hS4, hq4, hL04, hk4⟩
  have K4 : Kept (fun k => k = S ∨ k = G0) w2 w4 := ((Kept.refl _ w2).drewN _).same hk4
  have hq4' : w4.ownsRow w.heap.size 55 3 (.slice (some ⟨q, 0, none⟩) 1 qc) 1 [.bool false, .int .i64 anchor, .slice ra rn rc] := owns_base2 hq4 (Nat.le_trans hk2.size (by simp))
  have HQ4 : Hid (w4.ownsRow w.heap.size 55 3 (.slice (some ⟨q, 0, none⟩) 1 qc) 1 [.bool false, .int .i64 anchor, .slice ra rn rc]) := hq4'
  clear hq4 hq4'
  have hlv4 : w4.ownsRow B 52 4 (.slice (some ⟨gl, 0, none⟩) 3 cp) 3 (lev 0 true 0 (some G0) ++ lev 2 false 0 none ++ lev 4 true colon (some G)) := K4.owns HLV2.out (fun k hk e => by simp [Value.ownBlock] at hk; subst hk; exact e.elim hne hlG0)
  have hk4' : Kept (fun k => k = S ∨ k = G0) w w4 := hk2.trans K4 (fun _ _ h => .inl h) (fun _ _ h => h)
  have c3 := hS4.c3
  have f3 := hS4.fr 3
  have HS4 : Hid (ScanAt w4 S D 4 most (.slice (some ⟨gl, 0, none⟩) 3 cp) tv (.slice (some ⟨q, 0, none⟩) 1 qc)) := hS4
  have HLV4 : Hid (w4.ownsRow B 52 4 (.slice (some ⟨gl, 0, none⟩) 3 cp) 3 (lev 0 true 0 (some G0) ++ lev 2 false 0 none ++ lev 4 true colon (some G))) := hlv4
  have HL04 : Hid (ListAt w4 G0 ind0 rpi0 anchor0 rv0 0 0) := hL04
  clear hS4 hk4 hk2 K4 HS2 HL2 HLV2 HL02 lK1 lK3 gL0 hlv4 hL04
  go_wp2_with fail
  go_region
  go_wp2_with fail
  obtain ⟨w5, hw5⟩ : ∃ w5, w5 = w4.drew.setCell ⟨S, 3, none⟩ (.slice (some ⟨gl, 0, none⟩) 2 cp) := ⟨_, rfl⟩
  first | rw [show (w4.setCell ⟨S, 3, none⟩ (.slice (some ⟨gl, 0, none⟩) 2 cp)).drew = w5 from hw5.symm] | rw [← hw5]
  have K5 : Kept (fun k => k = S) w4 w5 := by rw [hw5]; exact Kept.setCell (p := fun k => k = S) (Kept.refl _ w4).drew (q := ⟨S, 3, none⟩) (.inl rfl) _
  have hS5 : ScanAt w5 S D 4 most (.slice (some ⟨gl, 0, none⟩) 2 cp) tv (.slice (some ⟨q, 0, none⟩) 1 qc) := by rw [hw5]; exact ScanAt.set3 (w := w4.drew) HS4.out _
  have hlv5 : w5.ownsRow B 52 4 (.slice (some ⟨gl, 0, none⟩) 2 cp) 2 (lev 0 true 0 (some G0) ++ lev 2 false 0 none) := K5.owns (ownsRow_pop (n := 2) rfl HLV4.out) (fun k hk e => hne (by simp [Value.ownBlock] at hk; omega))
  have hL05 : ListAt w5 G0 ind0 rpi0 anchor0 rv0 0 0 := HL04.out.kept K5 (fun e => hSG0 e.symm)
  have hk5 := hk4'.trans (r := fun k => k = S ∨ k = G0) K5 (fun _ _ h => h) (fun _ _ h => .inl h)
  have hq5 : w5.ownsRow w.heap.size 55 3 (.slice (some ⟨q, 0, none⟩) 1 qc) 1 [.bool false, .int .i64 anchor, .slice ra rn rc] := K5.owns HQ4.out (fun k hk e => owns_ne_scan HQ4.out HS4.out (by decide) (by rw [hk, e]))
  clear hw5 K5 HS4 HLV4 HL04 c3 f3 hk4'
  have c3 := hS5.c3
  have m0 := hlv5.cellAt 4 (by omega)
  have m1 := hlv5.cellAt 5 (by omega)
  simp [lev] at m0 m1
  have HS5 : Hid (ScanAt w5 S D 4 most (.slice (some ⟨gl, 0, none⟩) 2 cp) tv (.slice (some ⟨q, 0, none⟩) 1 qc)) := hS5
  have HLV5 : Hid (w5.ownsRow B 52 4 (.slice (some ⟨gl, 0, none⟩) 2 cp) 2 (lev 0 true 0 (some G0) ++ lev 2 false 0 none)) := hlv5
  have HL05 : Hid (ListAt w5 G0 ind0 rpi0 anchor0 rv0 0 0) := hL05
  have HQ5 : Hid (w5.ownsRow w.heap.size 55 3 (.slice (some ⟨q, 0, none⟩) 1 qc) 1 [.bool false, .int .i64 anchor, .slice ra rn rc]) := hq5
  clear hq5
  clear hS5 hlv5 hL05
  rw [rounds_succ]
  go_wp2_with fail
  go_quiet (fail)
  go_wp2_with fail
  refine (ends42_nokey gl 4 2 4 false _ (by exact m0) (by exact m1)).mono ?_
  rintro e w6 ⟨rfl, hw6⟩
  cases hw6
  rw [show decide ((4 : Int) ≤ 2) = false from rfl]
  go_wp2
  go_ret
  exact ⟨rfl, gl, cp, ⟨q, qc, HS5.out, HQ5.out⟩, HLV5.out, HL05.out, hk5.drewN _⟩

set_option maxHeartbeats 1000000 in
theorem enterD2 (S D G0 B : Nat) (most colon start : Int) (lv tv gv : Value) (w : World) (hS : ScanAt w S D 4 most lv tv gv) (hD : DataAt w D) (hlv : w.ownsRow B 52 4 lv 3 (lev 0 true 0 (some G0) ++ lev 2 false 0 none ++ lev 4 true colon none)) :
    Calls Try.prog 39 #[.pointer (some ⟨S, 0, none⟩), .int .i64 start, .int .i64 4] w fun e w' => e = .returned (.int .i64 (-1)) ∧
      ∃ g cap, ScanAt w' S D 4 most (.slice (some ⟨g, 0, none⟩) 2 cap) tv gv ∧ w'.ownsRow B 52 4 (.slice (some ⟨g, 0, none⟩) 2 cap) 2 (lev 0 true 0 (some G0) ++ lev 2 false 0 none) ∧ Kept (fun k => k = S) w w' := by
  obtain ⟨gl, cp, rfl, hBg, hgl⟩ := hlv.form (by omega)
  have hne : gl ≠ S := fun e => owns_ne_scan hlv hS (by decide) (by simp [Value.ownBlock, e])
  go_enter Try.func39, Try.ntmps39
  go_wp2_with fail
  refine (has41_not S D most _ _ _ _ hS hD).mono ?_
  rintro e w1 ⟨rfl, hk1⟩
  have hS1 := hS.kept hk1 (fun h => h)
  have hlv1 := hk1.owns hlv (fun _ _ h => h)
  have c3 := hS1.c3
  have f3 := hS1.fr 3
  have lX0 := hlv1.cellAt 8 (by omega)
  have lX1 := hlv1.cellAt 9 (by omega)
  have lX3 := hlv1.cellAt 11 (by omega)
  simp [lev] at lX0 lX1 lX3
  have hcp : 3 ≤ cp := by
    rcases hlv1.2 with ⟨h, _⟩ | ⟨g', cap', cur, h, _, _, h2, _⟩
    · simp at h
    · simp at h; omega
  have HLV1 : Hid (w1.ownsRow B 52 4 (.slice (some ⟨gl, 0, none⟩) 3 cp) 3 (lev 0 true 0 (some G0) ++ lev 2 false 0 none ++ lev 4 true colon none)) := hlv1
  have HS1 : Hid (ScanAt w1 S D 4 most (.slice (some ⟨gl, 0, none⟩) 3 cp) tv gv) := hS1
  clear hS1 hlv1 hS hlv hD
  go_wp2_with fail
  refine wp_loop_rounds 2 ?_
  rw [rounds_succ]
  go_wp2_with fail
  go_quiet (fail)
  go_wp2_with fail
  refine (ends42_nolist gl 8 4 4 false _ (by exact lX0) (by exact lX1) (by exact lX3)).mono ?_
  rintro e w2 ⟨rfl, hw2⟩
  cases hw2
  rw [show endsP 4 4 false = true from rfl]
  go_wp2_with fail
  go_region
  go_wp2_with fail
  obtain ⟨w2, hw2⟩ : ∃ w2, w2 = (w1.drewN (nq + 1)).setCell ⟨S, 3, none⟩ (.slice (some ⟨gl, 0, none⟩) 2 cp) := ⟨_, rfl⟩
  rw [← hw2]
  have K2 : Kept (fun k => k = S) w1 w2 := by rw [hw2]; exact Kept.setCell (p := fun k => k = S) ((Kept.refl _ w1).drewN _) (q := ⟨S, 3, none⟩) (.inl rfl) _
  have hS2 : ScanAt w2 S D 4 most (.slice (some ⟨gl, 0, none⟩) 2 cp) tv gv := by rw [hw2]; exact ScanAt.set3 (w := w1.drewN (nq + 1)) HS1.out _
  have hlv2 : w2.ownsRow B 52 4 (.slice (some ⟨gl, 0, none⟩) 2 cp) 2 (lev 0 true 0 (some G0) ++ lev 2 false 0 none) := K2.owns (ownsRow_pop (n := 2) rfl HLV1.out) (fun k hk e => hne (by simp [Value.ownBlock] at hk; omega))
  have hk2 := hk1.trans (r := fun k => k = S) K2 (fun _ _ h => h.elim) (fun _ _ h => h)
  clear hw2 K2 HS1 HLV1 c3 f3 lX0 lX1 lX3 hk1
  have c3 := hS2.c3
  have m0 := hlv2.cellAt 4 (by omega)
  have m1 := hlv2.cellAt 5 (by omega)
  simp [lev] at m0 m1
  have HS2 : Hid (ScanAt w2 S D 4 most (.slice (some ⟨gl, 0, none⟩) 2 cp) tv gv) := hS2
  have HLV2 : Hid (w2.ownsRow B 52 4 (.slice (some ⟨gl, 0, none⟩) 2 cp) 2 (lev 0 true 0 (some G0) ++ lev 2 false 0 none)) := hlv2
  clear hS2 hlv2
  rw [rounds_succ]
  go_wp2_with fail
  go_quiet (fail)
  go_wp2_with fail
  refine (ends42_nokey gl 4 2 4 false _ (by exact m0) (by exact m1)).mono ?_
  rintro e w6 ⟨rfl, hw6⟩
  cases hw6
  rw [show decide ((4 : Int) ≤ 2) = false from rfl]
  go_wp2
  go_ret
  exact ⟨rfl, gl, cp, HS2.out, HLV2.out, hk2.drewN _⟩
end Go.Proofs.Qxb6600513a
