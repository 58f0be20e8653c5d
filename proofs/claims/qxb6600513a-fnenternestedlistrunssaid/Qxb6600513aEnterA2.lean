/-
  (*writtenScan).enter: an item under a nested key that has no list yet.
-/
import Derived.Test.Qxb6600513aEnterA
namespace Go.Proofs.Qxb6600513a
open Go.RowKit
set_option linter.unusedVariables false
set_option linter.unusedSimpArgs false

set_option maxHeartbeats 1000000 in
theorem enterA2 (S D B G0 : Nat) (most indent colon start : Int) (lv tv gv : Value) (w : World) (hS : ScanAt w S D 0 most lv tv gv) (hD : DataAt w D) (hlv : w.ownsRow B 52 4 lv 3 (lev 0 true 0 (some G0) ++ lev 2 false 0 none ++ lev 4 true colon none)) (hB : B ≤ w.heap.size) (hind : 4 ≤ indent) :
    Calls Try.prog 39 #[.pointer (some ⟨S, 0, none⟩), .int .i64 start, .int .i64 indent] w fun e w' => e = .returned (.int .i64 (-1)) ∧
      ∃ g cap G r, ScanAt w' S D 0 most (.slice (some ⟨g, 0, none⟩) 4 cap) tv gv ∧ w'.ownsRow B 52 4 (.slice (some ⟨g, 0, none⟩) 4 cap) 4 (lev 0 true 0 (some G0) ++ lev 2 false 0 none ++ lev 4 true colon (some G) ++ lev indent false 0 none) ∧
        ListAt w' G indent false colon (.slice (some ⟨r, 0, none⟩) 1 1) 0 0 ∧ w.heap.size ≤ G ∧ w.heap.size ≤ r ∧ (lv.ownBlock = some g ∨ w.heap.size ≤ g) ∧ w'.ownsRow w.heap.size 3 1 (.slice (some ⟨r, 0, none⟩) 1 1) 1 [.int .i64 start] ∧ Kept (fun k => k = S ∨ lv.ownBlock = some k) w w' := by
  obtain ⟨gl, cp, rfl, hBg, hgl⟩ := hlv.form (by omega)
  have hne : gl ≠ S := fun e => by have := owns_ne hlv hS (by decide); exact this (by simp [Value.ownBlock, e])
  go_enter Try.func39, Try.ntmps39
  go_wp2_with fail
  refine (has41_item S D most _ tv gv _ hS hD).mono ?_
  rintro e w1 ⟨rfl, hk1⟩
  have hS1 := hS.kept hk1 (fun h => h)
  have hlv1 := hk1.owns hlv (fun _ _ h => h)
  have c3 := hS1.c3
  have l0 := hlv1.cellAt 8 (by omega)
  have l1 := hlv1.cellAt 9 (by omega)
  have l2 := hlv1.cellAt 10 (by omega)
  have l3 := hlv1.cellAt 11 (by omega)
  simp [lev] at l0 l1 l2 l3
  go_wp2_with fail
  refine wp_loop_rounds 1 ?_
  rw [rounds_succ]
  go_wp2_with fail
  go_quiet (fail)
  go_wp2_with fail
  refine (ends42_nolist gl 8 4 indent true _ (by exact l0) (by exact l1) (by exact l3)).mono ?_
  rintro e w2 ⟨rfl, hw2⟩
  cases hw2
  rw [show endsP indent 4 true = false from by simp [endsP]; omega]
  have hk2 := hk1.drewN nq
  generalize hw2 : w1.drewN nq = w2 at *
  have hS2 : ScanAt w2 S D 0 most (.slice (some ⟨gl, 0, none⟩) 3 cp) tv gv := by rw [← hw2]; exact hS1
  have hlv2 : w2.ownsRow B 52 4 (.slice (some ⟨gl, 0, none⟩) 3 cp) 3 (lev 0 true 0 (some G0) ++ lev 2 false 0 none ++ lev 4 true colon none) := by rw [← hw2]; exact hlv1
  clear hw2 hlv1 hS1 c3 l0 l1 l2 l3 hk1 hlv hS hD
  have c3 := hS2.c3
  have f3 := hS2.fr 3
  have k3 := hlv2.frozenAt 11
  have l1 := hlv2.cellAt 9 (by omega)
  have l2 := hlv2.cellAt 10 (by omega)
  have l3 := hlv2.cellAt 11 (by omega)
  simp [lev] at l1 l2 l3
  have gl0 : gl < w2.heap.size := Nat.lt_of_lt_of_le hgl hk2.size
  have gl1 : gl < w2.heap.size + 1 := by omega
  have gl2 : gl < w2.heap.size + 1 + 1 := by omega
  have s0 : S < w2.heap.size := lt_of_block hS2
  have s1 : S < w2.heap.size + 1 := by omega
  have s2 : S < w2.heap.size + 1 + 1 := by omega
  have hne' : S ≠ gl := Ne.symm hne
  have HS2 : Hid (ScanAt w2 S D 0 most (.slice (some ⟨gl, 0, none⟩) 3 cp) tv gv) := hS2
  have HLV : Hid (w2.ownsRow B 52 4 (.slice (some ⟨gl, 0, none⟩) 3 cp) 3 (lev 0 true 0 (some G0) ++ lev 2 false 0 none ++ lev 4 true colon none)) := hlv2
  clear hS2 hlv2
  obtain ⟨i0, hi, hz0, hz1, hz2⟩ := info_parts Try.info52
  have HOWN : Hid (∀ o1 o2 o3, ((((w2.setCell ⟨gl, 11, none⟩ (.pointer (some ⟨w2.heap.size + 1, 0, none⟩))).alloc o1).alloc o2).alloc o3).ownsRow B 52 4 (.slice (some ⟨gl, 0, none⟩) 3 cp) 3 (lev 0 true 0 (some G0) ++ lev 2 false 0 none ++ lev 4 true colon (some (w2.heap.size + 1)))) := fun o1 o2 o3 => (((HLV.out.stored 11 _).1.alloc o1).alloc o2).alloc o3
  have HNEW : Hid (∀ (W : World), W.heap.size = w2.heap.size + 2 → ∀ j u, (lev indent false 0 none)[j]? = some u → (W.alloc (.cells (lev indent false 0 none).toArray 52)).cell? ((⟨w2.heap.size + 2, 0, none⟩ : Addr).add j) = some u) := fun W hW => by
    rw [← hW]; exact cells_new _ _ _
  have hBw := Nat.le_trans hB hk2.size
  have HB : Hid (∀ o1 o2 o3 w3, ((((w2.setCell ⟨gl, 11, none⟩ (.pointer (some ⟨w2.heap.size + 1, 0, none⟩))).alloc o1).alloc o2).alloc o3).grownBy w3 (some gl) →
      (∀ k, k < w2.heap.size → k ≠ gl → w3.heap[k]? = w2.heap[k]?) ∧ w3.heap[w2.heap.size]? = some o1 ∧ w3.heap[w2.heap.size + 1]? = some o2 ∧ Kept (fun k => k = gl) w2 w3) := fun o1 o2 o3 w3 hg => blocks3 gl0 hg
  go_wp2_with (at_builtin; (refine wpList_append_lies _ (by rfl) (.tmp 143) (.tmp 146) 46 (by rfl) B 52 i0 _ 4 32 Try.underlying46 hi hz0 hz1 hz2 (by rfl) (by omega) (.slice (some ⟨gl, 0, none⟩) 3 cp) 3 (lev 0 true 0 (some G0) ++ lev 2 false 0 none ++ lev 4 true colon (some (w2.heap.size + 1))) (by rfl) (by exact HOWN.out _ _ _) ⟨w2.heap.size + 2, 0, none⟩ 1 1 (lev indent false 0 none) (by rfl) (by rfl) (by exact HNEW.out _ (by simp)) (by simp [lev, Value.oneCell']) (by omega) (by unfold maxLen; omega) (by omega) (by simp; omega) (w2.heap.size + 3) (by simp) ?_); intro g cap w3 hown3 hgrow hat hlt; obtain ⟨q0, q1, q2, q3⟩ := HB.out _ _ _ w3 hgrow; have hS3 : ScanAt w3 S D 0 most (.slice (some ⟨gl, 0, none⟩) 3 cp) tv gv := q3.heap HS2.out hne'; have t3 := hS3.c3; have u3 := hS3.fr 3; have HS3 : Hid (ScanAt w3 S D 0 most (.slice (some ⟨gl, 0, none⟩) 3 cp) tv gv) := hS3; have Q1 : Hid _ := q1; have Q2 : Hid _ := q2; clear q0 q1 q2 hS3)
  go_ret
  have sz := hk2.size
  refine ⟨rfl, g, cap, w2.heap.size + 1, w2.heap.size, HS3.out.set3 _, ?_, ?_, by omega, sz, ?_, ?_, ?_⟩
  · exact ownsRow_setCell_other (a := ⟨S, 3, none⟩) hown3 (owns_ne_scan hown3 HS3.out (by decide)) _
  · show _ = _
    rw [heap_set_ne _ _ _ _ _ (by omega)]
    exact Q2.out
  · exact hat.elim .inl (fun h => .inr (by omega))
  · refine ⟨rfl, .inr ⟨w2.heap.size, 1, #[.int .i64 start], rfl, sz, ?_, by omega, by decide, rfl, rfl⟩⟩
    rw [heap_set_ne _ _ _ _ _ (by omega)]
    exact Q1.out
  · exact Kept.setCell (p := fun k => k = S ∨ (Value.slice (some ⟨gl, 0, none⟩) 3 cp).ownBlock = some k) (hk2.trans q3 (fun _ _ h => h.elim) (fun k _ h => .inr (by rw [h]; rfl))) (q := ⟨S, 3, none⟩) (.inl (.inl rfl)) _
end Go.Proofs.Qxb6600513a
