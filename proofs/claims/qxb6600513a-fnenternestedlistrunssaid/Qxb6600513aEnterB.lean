/-
  (*writtenScan).enter: the next item of an open list.
-/
import Derived.Test.Qxb6600513aEnterA
import Derived.RegionTactic
import Derived.ChangeAlike
namespace Go.Proofs.Qxb6600513a
open Go.RowKit
set_option linter.unusedVariables false
set_option linter.unusedSimpArgs false

theorem owns_ne2 {w : World} {b1 b2 : Nat} {e1 e2 : TypeId} {s1 s2 : Nat} {v1 v2 : Value} {n1 n2 : Nat} {xs1 xs2 : List Value} (h1 : w.ownsRow b1 e1 s1 v1 n1 xs1) (h2 : w.ownsRow b2 e2 s2 v2 n2 xs2) (hne : e1 ≠ e2) {k : Nat} (hk : v1.ownBlock = some k) : v2.ownBlock ≠ some k := by
  intro he
  rcases h2.2 with ⟨rfl, _⟩ | ⟨g, cap, cur, rfl, hb, hg, rest⟩
  · simp [Value.ownBlock] at he
  · simp [Value.ownBlock] at he
    subst he
    exact owns_ne h1 hg hne hk

set_option maxHeartbeats 1000000 in
theorem enterB0 (S D G B Br m : Nat) (most indent colon anchor start : Int) (lv tv gv rv : Value) (rs : List Value) (w : World) (hS : ScanAt w S D 0 most lv tv gv) (hD : DataAt w D) (hlv : w.ownsRow B 52 4 lv 2 (lev 0 true colon (some G) ++ lev indent false 0 none)) (hB : B ≤ w.heap.size)
    (hL : ListAt w G indent true anchor rv 0 0) (hrv : w.ownsRow Br 3 1 rv m rs) (hBr : Br ≤ w.heap.size) (hm0 : m ≤ 1048576)  :
    Calls Try.prog 39 #[.pointer (some ⟨S, 0, none⟩), .int .i64 start, .int .i64 indent] w fun e w' => e = .returned (.int .i64 (-1)) ∧
      ∃ g cap, ScanAt w' S D 0 most (.slice (some ⟨g, 0, none⟩) 2 cap) tv gv ∧ w'.ownsRow B 52 4 (.slice (some ⟨g, 0, none⟩) 2 cap) 2 (lev 0 true colon (some G) ++ lev indent false 0 none) ∧ (lv.ownBlock = some g ∨ w.heap.size ≤ g) ∧
        (∃ r' rc', ListAt w' G indent true anchor (.slice (some ⟨r', 0, none⟩) (m + 1) rc') 0 0 ∧ w'.ownsRow Br 3 1 (.slice (some ⟨r', 0, none⟩) (m + 1) rc') (m + 1) (rs ++ [.int .i64 start]) ∧ (rv.ownBlock = some r' ∨ w.heap.size ≤ r')) ∧ Kept (fun k => k = S ∨ lv.ownBlock = some k ∨ k = G ∨ rv.ownBlock = some k) w w' := by
  obtain ⟨gl, cp, rfl, hBg, hgl⟩ := hlv.form (by omega)
  have hne : gl ≠ S := fun e => owns_ne_scan hlv hS (by decide) (by simp [Value.ownBlock, e])
  have hneG : gl ≠ G := fun e => owns_ne hlv hL (by decide) (by simp [Value.ownBlock, e])
  have hSG : S ≠ G := fun e => by have h1 := hL; rw [← e] at h1; have h2 := hS; unfold ListAt at h1; unfold ScanAt at h2; rw [h1] at h2; simp at h2
  go_enter Try.func39, Try.ntmps39
  go_wp2_with fail
  refine (has41_item S D most _ tv gv _ hS hD).mono ?_
  rintro e w1 ⟨rfl, hk1⟩
  have hS1 := hS.kept hk1 (fun h => h)
  have hL1 := hL.kept hk1 (fun h => h)
  have hlv1 := hk1.owns hlv (fun _ _ h => h)
  have hrv1 := hk1.owns hrv (fun _ _ h => h)
  have c3 := hS1.c3
  have f3 := hS1.fr 3
  have lX0 := hlv1.cellAt 4 (by omega)
  have lX1 := hlv1.cellAt 5 (by omega)
  have lX3 := hlv1.cellAt 7 (by omega)
  simp [lev] at lX0 lX1 lX3
  have HL1 : Hid (ListAt w1 G indent true anchor rv 0 0) := hL1
  have HRV1 : Hid (w1.ownsRow Br 3 1 rv m rs) := hrv1
  have HLV1 : Hid (w1.ownsRow B 52 4 (.slice (some ⟨gl, 0, none⟩) 2 cp) 2 (lev 0 true colon (some G) ++ lev indent false 0 none)) := hlv1
  have HS1 : Hid (ScanAt w1 S D 0 most (.slice (some ⟨gl, 0, none⟩) 2 cp) tv gv) := hS1
  have hcp : 2 ≤ cp := by
    rcases hlv1.2 with ⟨h, _⟩ | ⟨g', cap', cur, h, _, _, h2, _⟩
    · simp at h
    · simp at h; omega
  clear hS1 hL1 hlv1 hrv1 hS hL hlv hrv hD
  go_wp2_with fail
  refine wp_loop_rounds 2 ?_
  rw [rounds_succ]
  go_wp2_with fail
  go_quiet (fail)
  go_wp2_with fail
  refine (ends42_nokey gl 4 indent indent true _ (by exact lX0) (by exact lX1)).mono ?_
  rintro e w2 ⟨rfl, hw2⟩
  cases hw2
  rw [show decide (indent ≤ indent) = true from by simp]
  go_wp2_with fail
  go_region
  go_wp2_with fail
  obtain ⟨w2, hw2⟩ : ∃ w2, w2 = (w1.drewN (nq + 1)).setCell ⟨S, 3, none⟩ (.slice (some ⟨gl, 0, none⟩) 1 cp) := ⟨_, rfl⟩
  rw [← hw2]
  have K2 : Kept (fun k => k = S) w1 w2 := by rw [hw2]; exact Kept.setCell (p := fun k => k = S) ((Kept.refl _ w1).drewN _) (q := ⟨S, 3, none⟩) (.inl rfl) _
  have hS2 : ScanAt w2 S D 0 most (.slice (some ⟨gl, 0, none⟩) 1 cp) tv gv := by rw [hw2]; exact ScanAt.set3 (w := w1.drewN (nq + 1)) HS1.out _
  have hlv2 : w2.ownsRow B 52 4 (.slice (some ⟨gl, 0, none⟩) 1 cp) 1 (lev 0 true colon (some G)) := K2.owns (ownsRow_pop (n := 1) rfl HLV1.out) (fun k hk e => hne (by simp [Value.ownBlock] at hk; omega))
  have hL2 : ListAt w2 G indent true anchor rv 0 0 := HL1.out.kept K2 (fun e => hSG e.symm)
  have hrv2 : w2.ownsRow Br 3 1 rv m rs := K2.owns HRV1.out (fun k hk e => owns_ne_scan HRV1.out HS1.out (by decide) (by rw [hk, e]))
  have hk2 := hk1.trans (r := fun k => k = S) K2 (fun _ _ h => h.elim) (fun _ _ h => h)
  clear hw2 K2 HS1 HLV1 HL1 HRV1 c3 f3 lX0 lX1 lX3 hk1
  have c3 := hS2.c3
  have lK1 := hlv2.cellAt 1 (by omega)
  have lK3 := hlv2.cellAt 3 (by omega)
  have gL0 := hL2.c0
  simp [lev] at lK1 lK3
  have HS2 : Hid (ScanAt w2 S D 0 most (.slice (some ⟨gl, 0, none⟩) 1 cp) tv gv) := hS2
  have HLV2 : Hid (w2.ownsRow B 52 4 (.slice (some ⟨gl, 0, none⟩) 1 cp) 1 (lev 0 true colon (some G))) := hlv2
  have HL2 : Hid (ListAt w2 G indent true anchor rv 0 0) := hL2
  have HRV2 : Hid (w2.ownsRow Br 3 1 rv m rs) := hrv2
  clear hS2 hlv2 hL2 hrv2
  rw [rounds_succ]
  go_wp2_with fail
  go_quiet (fail)
  go_wp2_with fail
  refine (ends42_list gl 0 G indent indent true _ (by exact lK1) (by exact lK3) (by exact gL0)).mono ?_
  rintro e w3 ⟨rfl, hw3⟩
  cases hw3
  rw [show endsP indent indent true = false from by simp [endsP]]
  go_wp2_with fail
  refine (over44 S G most _ (by exact HS2.out.c2) (by exact HL2.out.c5)).mono ?_
  rintro e w4 ⟨rfl, hk4'⟩
  have K4 : Kept no w2 w4 := ((Kept.refl no w2).drewN _).same hk4'
  have hS4 := HS2.out.kept K4 (fun h => h)
  have hL4 := HL2.out.kept K4 (fun h => h)
  have hlv4 := K4.owns HLV2.out (fun _ _ h => h)
  have hrv4 := K4.owns HRV2.out (fun _ _ h => h)
  have hk4 := hk2.trans (r := fun k => k = S) K4 (fun _ _ h => h) (fun _ _ h => h.elim)
  clear HS2 HLV2 HL2 HRV2 c3 lK1 lK3 gL0 hk2 hk4' K4
  have c3 := hS4.c3
  have lK3 := hlv4.cellAt 3 (by omega)
  simp [lev] at lK3
  have HS4 : Hid (ScanAt w4 S D 0 most (.slice (some ⟨gl, 0, none⟩) 1 cp) tv gv) := hS4
  have HLV4 : Hid (w4.ownsRow B 52 4 (.slice (some ⟨gl, 0, none⟩) 1 cp) 1 (lev 0 true colon (some G))) := hlv4
  have HL4 : Hid (ListAt w4 G indent true anchor rv 0 0) := hL4
  have HRV4 : Hid (w4.ownsRow Br 3 1 rv m rs) := hrv4
  clear hS4 hlv4 hL4 hrv4
  have hSr : rv.ownBlock ≠ some S := owns_ne_scan HRV4.out HS4.out (by decide)
  have hGr : rv.ownBlock ≠ some G := owns_ne HRV4.out HL4.out (by decide)
  have hglr : rv.ownBlock ≠ some gl := fun e => owns_ne2 HRV4.out HLV4.out (by decide) e rfl
  have hsz4 := hk4.size
  go_wp2_with fail
  refine (item45_app S G most indent anchor start true rv Br m rs _ HS4.out.c2 HL4.out HRV4.out (by omega) hm0 (.inl rfl)).mono ?_
  rintro e w5 ⟨rfl, r', rc', hL5, hrv5, hat5, hk5'⟩
  have hS5 := HS4.out.kept hk5' (fun h => h.elim hSG (fun e => hSr e))
  have hlv5 := hk5'.owns HLV4.out (fun k hk h => by simp [Value.ownBlock] at hk; subst hk; exact h.elim hneG (fun e => hglr e))
  have HRV5 : Hid (w5.ownsRow Br 3 1 (.slice (some ⟨r', 0, none⟩) (m + 1) rc') (m + 1) (rs ++ [.int .i64 start])) := hrv5
  have HL5 : Hid (ListAt w5 G indent true anchor (.slice (some ⟨r', 0, none⟩) (m + 1) rc') 0 0) := hL5
  clear hrv5 hL5
  have hk5 := hk4.trans (r := fun k => k = S ∨ k = gl ∨ k = G ∨ rv.ownBlock = some k) hk5' (fun _ _ h => .inl h) (fun _ _ h => .inr (.inr h))
  have c3 := hS5.c3
  have f3 := hS5.fr 3
  have s0 : S < w5.heap.size := lt_of_block hS5
  have HS5 : Hid (ScanAt w5 S D 0 most (.slice (some ⟨gl, 0, none⟩) 1 cp) tv gv) := hS5
  have HLV5 : Hid (w5.ownsRow B 52 4 (.slice (some ⟨gl, 0, none⟩) 1 cp) 1 (lev 0 true colon (some G))) := hlv5
  have hsz5 := hk5.size
  clear hS5 hlv5 HS4 HLV4 HL4 HRV4 hk4 hk5' lK3
  obtain ⟨i0, hi, hz0, hz1, hz2⟩ := info_parts Try.info52
  have HNEW : Hid (∀ j u, (lev indent false 0 none)[j]? = some u → (w5.alloc (.cells (lev indent false 0 none).toArray 52)).cell? ((⟨w5.heap.size, 0, none⟩ : Addr).add j) = some u) := cells_new _ _ _
  have HB : Hid (∀ o w6, (w5.alloc o).grownBy w6 (some gl) → Kept (fun k => k = gl) w5 w6) := fun o w6 hg => Kept.grown ((Kept.refl _ w5).alloc o) hg (fun k hk => .inl (by simpa using hk.symm))
  go_wp2_with (at_builtin; (refine wpList_append_lies _ (by rfl) (.tmp 143) (.tmp 146) 46 (by rfl) B 52 i0 _ 4 32 Try.underlying46 hi hz0 hz1 hz2 (by rfl) (by omega) (.slice (some ⟨gl, 0, none⟩) 1 cp) 1 (lev 0 true colon (some G)) (by rfl) (by exact HLV5.out.alloc _) ⟨w5.heap.size, 0, none⟩ 1 1 (lev indent false 0 none) (by rfl) (by rfl) (by exact HNEW.out) (by simp [lev, Value.oneCell']) (by omega) (by unfold maxLen; omega) (by omega) (by simp; omega) (w5.heap.size + 1) (by simp) ?_); intro g cap w6 hown6 hgrow hat hlt; have q3 := HB.out _ w6 hgrow; have hS6 : ScanAt w6 S D 0 most (.slice (some ⟨gl, 0, none⟩) 1 cp) tv gv := q3.heap HS5.out (fun e => hne e.symm); have t3 := hS6.c3; have u3 := hS6.fr 3; have HS6 : Hid (ScanAt w6 S D 0 most (.slice (some ⟨gl, 0, none⟩) 1 cp) tv gv) := hS6; clear hS6)
  go_ret
  have hLr : (Value.slice (some ⟨r', 0, none⟩) (m + 1) rc').ownBlock ≠ some S := owns_ne_scan HRV5.out HS5.out (by decide)
  have hLg : (Value.slice (some ⟨r', 0, none⟩) (m + 1) rc').ownBlock ≠ some gl := fun e => owns_ne2 HRV5.out HLV5.out (by decide) e rfl
  have q4 : Kept (fun k => k = S ∨ k = gl) w5 (w6.setCell ⟨S, 3, none⟩ (.slice (some ⟨g, 0, none⟩) 2 cap)) := Kept.setCell (p := fun k => k = S ∨ k = gl) (q3.mono fun _ _ h => .inr h) (q := ⟨S, 3, none⟩) (.inl (.inl rfl)) _
  have hL7 := HL5.out.kept q4 (fun h => h.elim (fun e => hSG e.symm) (fun e => hneG e.symm))
  have hrv7 := q4.owns HRV5.out (fun k hk h => h.elim (fun e => hLr (by rw [hk, e])) (fun e => hLg (by rw [hk, e])))
  refine ⟨rfl, g, cap, HS6.out.set3 _, ?_, hat.elim .inl (fun h => .inr (by omega)), ⟨r', rc', hL7, hrv7, hat5.elim .inl (fun h => .inr (by omega))⟩, ?_⟩
  · exact ownsRow_setCell_other (a := ⟨S, 3, none⟩) hown6 (owns_ne_scan hown6 HS6.out (by decide)) _
  · exact hk5.trans q4 (fun k _ h => h.elim .inl (fun h => .inr (h.elim (fun e => .inl (by rw [e]; rfl)) .inr))) (fun k _ h => h.elim .inl (fun e => .inr (.inl (by rw [e]; rfl))))
end Go.Proofs.Qxb6600513a
