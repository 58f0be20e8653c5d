/-
  (*writtenScan).close, of a nested list.
-/
import Derived.Test.Qxb6600513aEnterB2
import Derived.Deep.RegionHeld3
namespace Go.Proofs.Qxb6600513a
open Go.RowKit
set_option linter.unusedVariables false
set_option linter.unusedSimpArgs false

theorem scan_ne_list {w : World} {S D G : Nat} {pos most ind anchor run earlier : Int} {lv tv gv rv : Value} {rpi : Bool} (hS : ScanAt w S D pos most lv tv gv) (hL : ListAt w G ind rpi anchor rv run earlier) : S ≠ G := fun e => by
  have h1 := hL
  have h2 := hS
  unfold ListAt at h1
  unfold ScanAt at h2
  rw [← e, h2] at h1
  simp at h1

theorem owns_base2 {w : World} {b b' : Nat} {e : TypeId} {size : Nat} {v : Value} {n : Nat} {xs : List Value} (h : w.ownsRow b e size v n xs) (hb : b' ≤ b) : w.ownsRow b' e size v n xs := by
  refine ⟨h.1, ?_⟩
  rcases h.2 with h2 | ⟨g, cap, cur, hv, hg, rest⟩
  · exact .inl h2
  · exact .inr ⟨g, cap, cur, hv, Nat.le_trans hb hg, rest⟩

theorem Try.info55 : (Try.prog.info? 55).map (fun i => (i.zero, i.size, i.bytes)) = some (some (.agg #[.bool false, .int .i64 0, .slice none 0 0]), 3, 40) := by kernel_rfl

set_option maxHeartbeats 400000 in
theorem close43_one (S D G : Nat) (pos most ind anchor : Int) (lv tv gv : Value) (ra : Option Addr) (rn rc : Nat) (w : World) (hS : ScanAt w S D pos most lv tv gv) (hL : ListAt w G ind false anchor (.slice ra rn rc) 0 0) (hr : rn ≤ 1) :
    Calls Try.prog 43 #[.pointer (some ⟨S, 0, none⟩), .pointer (some ⟨G, 0, none⟩)] w fun e w' => e = .returned (.int .i64 (-1)) ∧ Kept no w w' := by
  have HS : Hid (ScanAt w S D pos most lv tv gv) := hS
  have HL : Hid (ListAt w G ind false anchor (.slice ra rn rc) 0 0) := hL
  clear hS hL
  have hd : ¬ (1 : Int) < (rn : Int) := by omega
  go_enter Try.func43, Try.ntmps43
  go_wp2_with fail
  refine (over44 S G most _ HS.out.c2 HL.out.c5).mono ?_
  rintro e w1 ⟨rfl, hk⟩
  have hL1 := HL.out.kept hk (fun h => h)
  have c1 := hL1.c1
  have c4 := hL1.c4
  clear hL1
  go_wp2
  go_ret
  exact ⟨rfl, hk⟩

set_option maxHeartbeats 1000000 in
theorem close43_long (S D G G0 B : Nat) (pos most ind anchor ind0 anchor0 colon : Int) (rpi0 : Bool) (lv tv rv0 : Value) (ra : Option Addr) (rn rc : Nat) (w : World) (hS : ScanAt w S D pos most lv tv (.slice none 0 0)) (hL : ListAt w G ind false anchor (.slice ra rn rc) 0 0) (hr : 2 ≤ rn)
    (hlv : w.ownsRow B 52 4 lv 3 (lev 0 true 0 (some G0) ++ lev 2 false 0 none ++ lev 4 true colon (some G))) (hL0 : ListAt w G0 ind0 rpi0 anchor0 rv0 0 0) (hGG : G ≠ G0) :
    Calls Try.prog 43 #[.pointer (some ⟨S, 0, none⟩), .pointer (some ⟨G, 0, none⟩)] w fun e w' => e = .returned (.int .i64 (-1)) ∧
      ∃ q qc, ScanAt w' S D pos most lv tv (.slice (some ⟨q, 0, none⟩) 1 qc) ∧ w'.ownsRow w.heap.size 55 3 (.slice (some ⟨q, 0, none⟩) 1 qc) 1 [.bool false, .int .i64 anchor, .slice ra rn rc] ∧ ListAt w' G0 ind0 rpi0 anchor0 rv0 0 0 ∧ Kept (fun k => k = S ∨ k = G0) w w' := by
  obtain ⟨gl, cp, rfl, hBg, hgl⟩ := hlv.form (by omega)
  have HS : Hid (ScanAt w S D pos most (.slice (some ⟨gl, 0, none⟩) 3 cp) tv (.slice none 0 0)) := hS
  have HL : Hid (ListAt w G ind false anchor (.slice ra rn rc) 0 0) := hL
  have HL0 : Hid (ListAt w G0 ind0 rpi0 anchor0 rv0 0 0) := hL0
  have HLV : Hid (w.ownsRow B 52 4 (.slice (some ⟨gl, 0, none⟩) 3 cp) 3 (lev 0 true 0 (some G0) ++ lev 2 false 0 none ++ lev 4 true colon (some G))) := hlv
  clear hS hL hL0 hlv
  have hd : (1 : Int) < (rn : Int) := by omega
  go_enter Try.func43, Try.ntmps43
  go_wp2_with fail
  refine (over44 S G most _ HS.out.c2 HL.out.c5).mono ?_
  rintro e w1 ⟨rfl, hk⟩
  have hS1 := HS.out.kept hk (fun h => h)
  have hL1 := HL.out.kept hk (fun h => h)
  have c1 := hL1.c1
  have c2 := hL1.c2
  have c3 := hL1.c3
  have c4 := hL1.c4
  have d7 := hS1.c7
  have f7 := hS1.fr 7
  have sG : G < w1.heap.size := lt_of_block hL1
  have sS : S < w1.heap.size := lt_of_block hS1
  have nG : G ≠ w1.heap.size := by omega
  have nS : S ≠ w1.heap.size := by omega
  obtain ⟨i0, hi, hz0, hz1, hz2⟩ := info_parts Try.info55
  have HS1 : Hid (ScanAt w1 S D pos most (.slice (some ⟨gl, 0, none⟩) 3 cp) tv (.slice none 0 0)) := hS1
  have HL1 : Hid (ListAt w1 G ind false anchor (.slice ra rn rc) 0 0) := hL1
  clear hS1 hL1
  have HB : Hid (∀ (W : World) (o : Obj) (w2 : World), W.heap = (w1.alloc o).heap → W.os = w1.os → W.tape = w1.tape → W.output = w1.output → W.grownBy w2 none → Kept no w1 w2) := fun W o w2 hW h1 h2 h3 hg =>
    ⟨hg.os.trans h1, hg.tape.trans h2, hg.output.trans h3, by have := hg.size; rw [hW] at this; simp at this; omega, fun k hk _ => by rw [hg.block k (by rw [hW]; simp; omega) (by simp), hW]; exact Below.heap_alloc _ _ _ hk⟩
  go_wp2
  go_region_law ((refine step_append_lies _ (by rfl) (.tmp 44) (.tmp 49) 47 (by rfl) w1.heap.size 55 i0 _ 3 40 Try.underlying47 hi hz0 hz1 hz2 (by rfl) (by omega) (.slice none 0 0) 0 [] (by rfl) (World.ownsRow_nil _ _ _ _) ⟨w1.heap.size, 0, none⟩ 1 1 [.bool false, .int .i64 anchor, .slice ra rn rc] (by rfl) (by rfl) (by exact cells_new w1 _ _) (by simp [Value.oneCell']) (by omega) (by unfold maxLen; omega) (by omega) (by simp) (w1.heap.size + 1) (by simp) ?_; intro q qc w2 hown2 hgrow hat hlt; have q3 := HB.out _ _ w2 (by rfl) (by rfl) (by rfl) (by rfl) hgrow; have hS2 := HS1.out.kept q3 (fun h => h); have t7 := hS2.c7; have u7 := hS2.fr 7; clear hS2))
  all_goals
    obtain ⟨w3, hw3⟩ : ∃ w3, w3 = w2.setCell ⟨S, 7, none⟩ (.slice (some ⟨q, 0, none⟩) 1 qc) := ⟨_, rfl⟩
    rw [← hw3]
    have K3 : Kept (fun k => k = S) w w3 := by rw [hw3]; exact Kept.setCell (p := fun k => k = S) ((hk.same q3).mono fun _ _ h => h.elim) (q := ⟨S, 7, none⟩) (.inl rfl) _
    have hS3 : ScanAt w3 S D pos most (.slice (some ⟨gl, 0, none⟩) 3 cp) tv (.slice (some ⟨q, 0, none⟩) 1 qc) := by rw [hw3]; exact ScanAt.set7 ((HS.out.kept hk (fun h => h)).kept q3 (fun h => h)) _
    have hq3 : w3.ownsRow w.heap.size 55 3 (.slice (some ⟨q, 0, none⟩) 1 qc) 1 [.bool false, .int .i64 anchor, .slice ra rn rc] := by
      rw [hw3]
      exact owns_base2 (ownsRow_setCell_other (a := ⟨S, 7, none⟩) hown2 (owns_ne_scan hown2 ((HS.out.kept hk (fun h => h)).kept q3 (fun h => h)) (by decide)) _) hk.size
    have hl3 : w3.ownsRow B 52 4 (.slice (some ⟨gl, 0, none⟩) 3 cp) 3 (lev 0 true 0 (some G0) ++ lev 2 false 0 none ++ lev 4 true colon (some G)) := K3.owns HLV.out (fun k hk' e => owns_ne_scan HLV.out HS.out (by decide) (by rw [hk', e]))
    have hLG : ListAt w3 G ind false anchor (.slice ra rn rc) 0 0 := HL.out.kept K3 (fun e => scan_ne_list HS.out HL.out e.symm)
    have hL0 : ListAt w3 G0 ind0 rpi0 anchor0 rv0 0 0 := HL0.out.kept K3 (fun e => scan_ne_list HS.out HL0.out e.symm)
    clear hw3 hown2 hgrow hat hlt q3 t7 u7 HB c1 c2 c3 c4 d7 f7
    have d3 := hS3.c3
    have hcp : 3 ≤ cp := by
      rcases hl3.2 with ⟨h, _⟩ | ⟨g', cap', cur, h, _, _, h2, _⟩
      · simp at h
      · simp at h; omega
    have HS3 : Hid (ScanAt w3 S D pos most (.slice (some ⟨gl, 0, none⟩) 3 cp) tv (.slice (some ⟨q, 0, none⟩) 1 qc)) := hS3
    have HQ3 : Hid (w3.ownsRow w.heap.size 55 3 (.slice (some ⟨q, 0, none⟩) 1 qc) 1 [.bool false, .int .i64 anchor, .slice ra rn rc]) := hq3
    have HL03 : Hid (ListAt w3 G0 ind0 rpi0 anchor0 rv0 0 0) := hL0
    have HLG3 : Hid (ListAt w3 G ind false anchor (.slice ra rn rc) 0 0) := hLG
    have Hl3 : Hid (w3.ownsRow B 52 4 (.slice (some ⟨gl, 0, none⟩) 3 cp) 3 (lev 0 true 0 (some G0) ++ lev 2 false 0 none ++ lev 4 true colon (some G))) := hl3
    clear hS3 hq3 hl3 hLG hL0
    go_wp2
    go_quiet (fail)
    go_wp2
    obtain ⟨w4, hw4⟩ : ∃ w4, w4 = w3.drewN nq := ⟨_, rfl⟩
    rw [← hw4]
    have K4 : Kept (fun k => k = S) w w4 := by rw [hw4]; exact K3.drewN nq
    have hS4 : ScanAt w4 S D pos most (.slice (some ⟨gl, 0, none⟩) 3 cp) tv (.slice (some ⟨q, 0, none⟩) 1 qc) := by rw [hw4]; exact HS3.out
    have hq4 : w4.ownsRow w.heap.size 55 3 (.slice (some ⟨q, 0, none⟩) 1 qc) 1 [.bool false, .int .i64 anchor, .slice ra rn rc] := by rw [hw4]; exact HQ3.out
    have hl4 : w4.ownsRow B 52 4 (.slice (some ⟨gl, 0, none⟩) 3 cp) 3 (lev 0 true 0 (some G0) ++ lev 2 false 0 none ++ lev 4 true colon (some G)) := by rw [hw4]; exact Hl3.out
    have hLG : ListAt w4 G ind false anchor (.slice ra rn rc) 0 0 := by rw [hw4]; exact HLG3.out
    have hL0 : ListAt w4 G0 ind0 rpi0 anchor0 rv0 0 0 := by rw [hw4]; exact HL03.out
    clear hw4 d3 HS3 HQ3 HL03 HLG3 Hl3 K3
    have e0 := hl4.cellAt 0 (by omega)
    have e1 := hl4.cellAt 1 (by omega)
    have e2 := hl4.cellAt 2 (by omega)
    have e3 := hl4.cellAt 3 (by omega)
    have e4 := hl4.cellAt 4 (by omega)
    have e5 := hl4.cellAt 5 (by omega)
    have e6 := hl4.cellAt 6 (by omega)
    have e7 := hl4.cellAt 7 (by omega)
    simp [lev] at e0 e1 e2 e3 e4 e5 e6 e7
    have g6 := hLG.c6
    have z5 := hL0.c5
    have zf := hL0.fr 5
    have b0 : G0 < w4.heap.size := lt_of_block hL0
    have b1 : G < w4.heap.size := lt_of_block hLG
    have b2 : gl < w4.heap.size := Nat.lt_of_lt_of_le hgl K4.size
    have b3 : gl < w4.heap.size + 1 := by omega
    have n1 : gl ≠ G0 := fun e => owns_ne hl4 hL0 (by decide) (by simp [Value.ownBlock, e])
    have n1' : G0 ≠ gl := Ne.symm n1
    have HS4 : Hid (ScanAt w4 S D pos most (.slice (some ⟨gl, 0, none⟩) 3 cp) tv (.slice (some ⟨q, 0, none⟩) 1 qc)) := hS4
    have HQ4 : Hid (w4.ownsRow w.heap.size 55 3 (.slice (some ⟨q, 0, none⟩) 1 qc) 1 [.bool false, .int .i64 anchor, .slice ra rn rc]) := hq4
    have HL04 : Hid (ListAt w4 G0 ind0 rpi0 anchor0 rv0 0 0) := hL0
    clear hS4 hq4 hl4 hLG hL0
    refine wp_loop_rounds 3 ?_
    rw [rounds_succ]
    go_wp2
    go_region
    all_goals go_wp2
    all_goals rw [rounds_succ]
    all_goals go_wp2
    all_goals rw [rounds_succ]
    all_goals go_wp2
    all_goals go_ret
    all_goals
      have key : ∀ wz, Kept (fun k => k = G0) w4 wz → ListAt wz G0 ind0 rpi0 anchor0 rv0 0 0 → Ending.returned (Value.int .i64 (-1)) = .returned (.int .i64 (-1)) ∧ ∃ q qc, ScanAt wz S D pos most (.slice (some ⟨gl, 0, none⟩) 3 cp) tv (.slice (some ⟨q, 0, none⟩) 1 qc) ∧ wz.ownsRow w.heap.size 55 3 (.slice (some ⟨q, 0, none⟩) 1 qc) 1 [.bool false, .int .i64 anchor, .slice ra rn rc] ∧ ListAt wz G0 ind0 rpi0 anchor0 rv0 0 0 ∧ Kept (fun k => k = S ∨ k = G0) w wz := fun wz hz hl =>
        ⟨rfl, q, qc, HS4.out.kept hz (scan_ne_list HS4.out HL04.out), hz.owns HQ4.out (fun k hk' e => owns_ne HQ4.out HL04.out (by decide) (by rw [hk', e])), hl, K4.trans hz (fun _ _ h => .inl h) (fun _ _ h => .inr h)⟩
      refine key _ ?_ ?_
      · exact ⟨rfl, rfl, rfl, by simp; omega, fun k hk' hne => (Below.heap_alloc _ _ _ (by simp; omega)).trans ((Below.heap_alloc _ _ _ (by simp; omega)).trans (heap_set_ne w4 G0 5 k _ hne))⟩
      · exact (Below.heap_alloc _ _ _ (by simp; omega)).trans ((Below.heap_alloc _ _ _ (by simp; omega)).trans (heap_setCell_arr HL04.out 5 (.int .i64 0)))
end Go.Proofs.Qxb6600513a
