/-
  (*nesting).blockAfter, ZZBlockAfter.
-/
import Derived.Test.Qxb6600532aTreeWalk
namespace Go.Proofs.Qxb6600532a
open Go.RowKit
set_option linter.unusedVariables false
set_option linter.unusedSimpArgs false

theorem tree_row {w : World} {B g hh cap : Nat} {l : List Int} (h : TreeAt w B (.slice (some ⟨g, 0, none⟩) (hh + 1) cap) l hh) (i : Nat) (hi : i ≤ hh) : ∃ a c, w.cell? ⟨g, i, none⟩ = some (.slice a (lv l i).length c) ∧ Sl .u16 w a (lv l i).length c (lv l i) := by
  obtain ⟨vs, ho, hr⟩ := h
  obtain ⟨a, n, c, e, r⟩ := hr i hi
  obtain rfl : (lv l i).length = n := r.1.len
  exact ⟨a, c, by rw [ho.cellAt i (by omega)]; exact e, r.1⟩

theorem up_le (n : Nat) : up n ≤ n := by unfold up; omega
theorem lv_len (l : List Int) : ∀ k, (lv l k).length ≤ l.length
  | 0 => Nat.le_refl _
  | k + 1 => by rw [lv_length]; exact Nat.le_trans (up_le _) (lv_len l k)

/-- What a search in a part of a row tells. -/
theorem ix_part {c : List Int} {i e : Nat} {d r : Int} (he : e ≤ c.length) (hi : i < e) (h : Ix ((c.drop i).take (e - i)) d r) :
    (r = -1 ∧ ∀ t, i ≤ t → t < e → d < c.getD t 0) ∨ ∃ t : Nat, r = t ∧ i + t < e ∧ c.getD (i + t) 0 ≤ d ∧ ∀ u, i ≤ u → u < i + t → d < c.getD u 0 := by
  have hl : ((c.drop i).take (e - i)).length = e - i := by simp; omega
  rcases h with ⟨rfl, h⟩ | ⟨t, rfl, h1, h2, h3⟩
  · refine .inl ⟨rfl, fun t h1 h2 => ?_⟩
    have := h (t - i) (by omega)
    rw [sub_getD _ _ _ _ (by omega), show i + (t - i) = t by omega] at this
    exact this
  · rw [hl] at h1
    rw [sub_getD _ _ _ _ h1] at h2
    refine .inr ⟨t, rfl, by omega, h2, fun u h4 h5 => ?_⟩
    have := h3 (u - i) (by omega)
    rw [sub_getD _ _ _ _ (by omega), show i + (u - i) = u by omega] at this
    exact this

set_option maxHeartbeats 2000000 in
theorem blockAfter19 (Nn B g hh cap : Nat) (l : List Int) (b d : Int) (w : World) (hn : l.length ≤ 65536) (hc : w.cell? ⟨Nn, 2, none⟩ = some (.slice (some ⟨g, 0, none⟩) (hh + 1) cap)) (ht : TreeAt w B (.slice (some ⟨g, 0, none⟩) (hh + 1) cap) l hh) (hh1 : (lv l hh).length ≤ 1) (hh2 : hh ≤ 65536) (hb0 : -1 ≤ b) (hb1 : b ≤ 1073741824) :
    Calls Try.prog 19 #[.pointer (some ⟨Nn, 0, none⟩), .int .i64 b, .int .i64 d] w fun e w' => (∃ r, e = .returned (.int .i64 r) ∧ FR l b d r) ∧ Kept no w w' := by
  obtain ⟨I0, hI0⟩ : ∃ I0 : Nat, (I0 : Int) = b + 1 := ⟨(b + 1).toNat, by omega⟩
  have C0 : Hid (Clr l b d 0 I0) := Clr.start l b d I0 hI0
  have hbI : b + 1 = (I0 : Int) := hI0.symm
  have hI0b : I0 ≤ 1073741825 := by omega
  have H1 : Hid ((lv l hh).length ≤ 1) := hh1
  have HLEN : Hid (∀ k, (lv l k).length ≤ 65536) := fun k => Nat.le_trans (lv_len l k) hn
  have HW : Hid (TreeAt w B (.slice (some ⟨g, 0, none⟩) (hh + 1) cap) l hh) := ht
  have hlt : Nn < w.heap.size := World.block_lt_of_cell? w _ hc
  clear hI0 hh1 ht
  go_enter Try.func19, Try.ntmps19
  go_wp2
  obtain ⟨bx, hbx⟩ : ∃ bx, bx = w.heap.size := ⟨_, rfl⟩
  obtain ⟨w1, hw1⟩ : ∃ w1, w1 = w.alloc (.cells #[.int .i64 d] 3) := ⟨_, rfl⟩
  rw [← hw1, ← hbx]
  have k1 : Kept no w w1 := by rw [hw1]; exact (Kept.refl no w).alloc _
  have K1 : Hid (Kept no w w1) := k1
  have HBX : Hid (w1.cell? ⟨bx, 0, none⟩ = some (.int .i64 d)) := by
    show _ = _
    rw [hw1, hbx, World.cell?, heap_new]; rfl
  have TW : Hid (TreeAt w1 B (.slice (some ⟨g, 0, none⟩) (hh + 1) cap) l hh) := HW.out.kept k1 (fun _ h => h.elim) (fun _ _ _ _ h => h)
  have hc1 : w1.cell? ⟨Nn, 2, none⟩ = some (.slice (some ⟨g, 0, none⟩) (hh + 1) cap) := by rw [World.cell?_of_block (w := w) (k1.block Nn hlt (fun h => h))]; exact hc
  clear hbx hw1 hc HW k1 hlt
  go_loopw [8, 9] (fun lvl iv wr => ∃ L I : Nat, L ≤ hh ∧ lvl = .int .i64 L ∧ iv = .int .i64 I ∧ I ≤ 1073741825 ∧ Hid (Clr l b d L I) ∧ wr = w1) (fun lvl _ _ => hh - (intOf lvl).toNat)
  case atStart => exact ⟨0, I0, by omega, rfl, by first | rfl | go_num, hI0b, C0.out, rfl⟩
  case round =>
    obtain ⟨L, I, hL, rfl, rfl, hI, HCL, hw⟩ := hrel
    have hw' := hw.symm
    subst hw'
    obtain ⟨a, c, hrow, hs⟩ := tree_row TW.out L hL
    have HS : Hid (Sl .u16 w1 a (lv l L).length c (lv l L)) := hs
    have hlenL := HLEN.out L
    have HEQ : Hid (L < hh ∨ (lv l L).length ≤ 1) := by
      rcases Nat.lt_or_ge L hh with h' | h'
      · exact .inl h'
      · obtain rfl : L = hh := by omega
        exact .inr H1.out
    obtain ⟨P, hP⟩ : ∃ P, P = (I / 16 + 1) * 16 := ⟨_, rfl⟩
    have hP' : ((I : Int) / 16 + 1) * 16 = (P : Int) := by omega
    have hIP : I < P := by omega
    have hP16 : 16 ≤ P := by omega
    have HPD : Hid (16 * (P / 16) = P) := by show _ = _; omega
    have hPb : P ≤ 1073741841 := by omega
    clear hP hs
    have hcc := HS.out.le
    generalize hnL : (lv l L).length = nL at *
    have HNL : Hid ((lv l L).length = nL) := hnL
    clear hnL
    by_cases hPn : P ≤ nL
    · obtain ⟨bq, oq, rfl, -⟩ := HS.out.cells (by omega)
      obtain ⟨u1, u2, u3⟩ := HS.out.sub I P hIP hPn
      have HI : Hid (Calls Try.prog 21 #[.slice (some ⟨bq, oq + I, none⟩) (P - I) (c - I), .func (.func 20) #[] #[.pointer (some ⟨bx, 0, none⟩)]] w1 fun e w' => (∃ r, e = .returned (.int .i64 r) ∧ Ix (((lv l L).drop I).take (P - I)) d r) ∧ w' = w1) := index21_some bq (oq + I) _ _ bx _ d w1 u2 (by omega) u1 u3 HBX.out
      clear u1 u2 u3
      go_wp2_with fail
      refine HI.out.mono ?_
      rintro e w2 ⟨⟨r, rfl, hr⟩, hw⟩
      cases hw
      rcases ix_part (by rw [HNL.out]; exact hPn) hIP hr with ⟨rfl, f1⟩ | ⟨t, rfl, f1, f2, f3⟩
      · by_cases hE : P = nL
        · have FIN : Hid (FR l b d (-1)) := (HCL.out.pass (i' := P) (by omega) (.inl (by rw [HNL.out]; omega)) f1).end (by rw [HNL.out]; omega)
          clear HCL HNL HEQ HS HPD HI f1 hr
          subst hE
          go_wp2
          go_ret
          exact ⟨⟨-1, rfl, FIN.out⟩, K1.out⟩
        · have hLh : L < hh := by rcases HEQ.out with h' | h' <;> omega
          obtain ⟨R, hR⟩ : ∃ R, R = P / 16 := ⟨_, rfl⟩
          have hR' : (P : Int) / 16 = (R : Int) := by omega
          have hRb : R ≤ 1073741825 := by omega
          have NX : Hid (Clr l b d (L + 1) R) := by
            refine Clr.climb ?_
            rw [hR, HPD.out]
            exact HCL.out.pass (i' := P) (by omega) (.inl (by rw [HNL.out]; omega)) f1
          have hne : ((P : Int) == (nL : Int)) = false := by simp; omega
          clear HCL HNL HEQ HS HPD HI f1 hr hR
          go_wp2
          go_roundw
          case rel => exact ⟨L + 1, R, by omega, by go_num, by go_num, hRb, NX.out, by trivial⟩
          case measure => simp [intOf]; omega
      · 
        have hJ : I + t ≤ 65536 := by omega
        have F0 : Hid (Clr l b d L (I + t) ∧ (lv l L).getD (I + t) 0 ≤ d ∧ I + t < (lv l L).length) := ⟨HCL.out.pass (by omega) (.inl (by rw [HNL.out]; omega)) f3, f2, by rw [HNL.out]; omega⟩
        have hLL : L ≤ hh := hL
        clear HCL HNL HEQ HS HPD HI f1 f2 f3 hr hrow hlenL hcc hL
        have hcast : ((I : Int) + (t : Int)) = ((I + t : Nat) : Int) := by omega
        generalize I + t = J at *
        go_wp2
        first | rw [hcast] | skip
        clear hcast
        go_loopw [8, 9] (fun lvl iv wr => ∃ L J : Nat, L ≤ hh ∧ lvl = .int .i64 L ∧ iv = .int .i64 J ∧ J ≤ 65536 ∧ Hid (Clr l b d L J ∧ (lv l L).getD J 0 ≤ d ∧ J < (lv l L).length) ∧ wr = w1) (fun lvl _ _ => (intOf lvl).toNat)
        case atStart => exact ⟨L, J, hLL, rfl, by go_num, hJ, F0.out, rfl⟩
        case round =>
          obtain ⟨L, J, hL, rfl, rfl, hJ, F, hw⟩ := hrel
          subst hw
          rcases L with _ | M
          · go_wp2
            go_ret
            exact ⟨⟨J, rfl, F.out.1.found F.out.2.2 F.out.2.1⟩, K1.out⟩
          · obtain ⟨t0, g1, g2, g3⟩ := beneath F.out.2.2 F.out.2.1
            obtain ⟨a, c, hrow, hs⟩ := tree_row TW.out M (by omega)
            have hlenM := HLEN.out M
            obtain ⟨Q, hQ⟩ : ∃ Q, Q = 16 * J := ⟨_, rfl⟩
            have hQ' : (J : Int) * 16 = (Q : Int) := by omega
            have hQn : Q < (lv l M).length := by omega
            obtain ⟨bq, oq, rfl, -⟩ := hs.cells (by omega)
            have hcM := hs.le
            obtain ⟨u1, u2, u3⟩ := hs.sub Q (lv l M).length hQn (Nat.le_refl _)
            have HI : Hid (Calls Try.prog 21 #[.slice (some ⟨bq, oq + Q, none⟩) ((lv l M).length - Q) (c - Q), .func (.func 20) #[] #[.pointer (some ⟨bx, 0, none⟩)]] wr fun e w' => (∃ r, e = .returned (.int .i64 r) ∧ Ix (((lv l M).drop Q).take ((lv l M).length - Q)) d r) ∧ w' = wr) := index21_some bq (oq + Q) _ _ bx _ d wr u2 (by omega) u1 u3 HBX.out
            have HF : Hid (∀ r, Ix (((lv l M).drop Q).take ((lv l M).length - Q)) d r → ∃ t : Nat, r = t ∧ Q + t ≤ 65536 ∧ Clr l b d M (Q + t) ∧ (lv l M).getD (Q + t) 0 ≤ d ∧ Q + t < (lv l M).length) := fun r hr => by
              rcases ix_part (Nat.le_refl _) hQn hr with ⟨rfl, hnone⟩ | ⟨t, rfl, v1, v2, v3⟩
              · have := hnone (16 * J + t0) (by omega) g2
                omega
              · exact ⟨t, rfl, by omega, (hQ ▸ F.out.1.down).pass (by omega) (.inl (by omega)) v3, v2, v1⟩
            have em : ((M + 1 : Nat) : Int) - 1 = (M : Int) := by omega
            have em' : ((M + 1 : Nat) : Int) = (M : Int) + 1 := by omega
            rw [em']
            have hrow' := hrow
            generalize hnM : (lv l M).length = nM at *
            have HLE : Hid ((lv l M).length = nM) := hnM
            clear hnM
            clear hs u1 u2 u3 F hQ g1 g2 g3 em
            go_wp2_with fail
            refine HI.out.mono ?_
            rintro e w2 ⟨⟨r, rfl, hr⟩, hw⟩
            cases hw
            obtain ⟨t, rfl, y1, y2⟩ := HF.out r hr
            have Y2 : Hid (Clr l b d M (Q + t) ∧ (lv l M).getD (Q + t) 0 ≤ d ∧ Q + t < nM) := y2
            clear y2 hr
            go_wp2
            go_roundw
            case rel => exact ⟨M, Q + t, by omega, by go_num, by go_num, y1, by have := Y2.out; rw [HLE.out]; exact this, by trivial⟩
            case measure => simp [intOf]
    · by_cases hIn : I < nL
      · obtain ⟨bq, oq, rfl, -⟩ := HS.out.cells (by omega)
        obtain ⟨u1, u2, u3⟩ := HS.out.sub I nL hIn (Nat.le_refl _)
        have HI : Hid (Calls Try.prog 21 #[.slice (some ⟨bq, oq + I, none⟩) (nL - I) (c - I), .func (.func 20) #[] #[.pointer (some ⟨bx, 0, none⟩)]] w1 fun e w' => (∃ r, e = .returned (.int .i64 r) ∧ Ix (((lv l L).drop I).take (nL - I)) d r) ∧ w' = w1) := index21_some bq (oq + I) _ _ bx _ d w1 u2 (by omega) u1 u3 HBX.out
        clear u1 u2 u3
        go_wp2_with fail
        refine HI.out.mono ?_
        rintro e w2 ⟨⟨r, rfl, hr⟩, hw⟩
        cases hw
        rcases ix_part (by rw [HNL.out]; omega) hIn hr with ⟨rfl, f1⟩ | ⟨t, rfl, f1, f2, f3⟩
        · have FIN : Hid (FR l b d (-1)) := (HCL.out.pass (i' := nL) (by omega) (.inl (by rw [HNL.out]; omega)) f1).end (by rw [HNL.out]; omega)
          clear HCL HNL HEQ HS HPD HI f1 hr
          go_wp2
          go_ret
          exact ⟨⟨-1, rfl, FIN.out⟩, K1.out⟩
        · 
          have hJ : I + t ≤ 65536 := by omega
          have F0 : Hid (Clr l b d L (I + t) ∧ (lv l L).getD (I + t) 0 ≤ d ∧ I + t < (lv l L).length) := ⟨HCL.out.pass (by omega) (.inl (by rw [HNL.out]; omega)) f3, f2, by rw [HNL.out]; omega⟩
          have hLL : L ≤ hh := hL
          clear HCL HNL HEQ HS HPD HI f1 f2 f3 hr hrow hlenL hcc hL
          have hcast : ((I : Int) + (t : Int)) = ((I + t : Nat) : Int) := by omega
          generalize I + t = J at *
          go_wp2
          first | rw [hcast] | skip
          clear hcast
          go_loopw [8, 9] (fun lvl iv wr => ∃ L J : Nat, L ≤ hh ∧ lvl = .int .i64 L ∧ iv = .int .i64 J ∧ J ≤ 65536 ∧ Hid (Clr l b d L J ∧ (lv l L).getD J 0 ≤ d ∧ J < (lv l L).length) ∧ wr = w1) (fun lvl _ _ => (intOf lvl).toNat)
          case atStart => exact ⟨L, J, hLL, rfl, by go_num, hJ, F0.out, rfl⟩
          case round =>
            obtain ⟨L, J, hL, rfl, rfl, hJ, F, hw⟩ := hrel
            subst hw
            rcases L with _ | M
            · go_wp2
              go_ret
              exact ⟨⟨J, rfl, F.out.1.found F.out.2.2 F.out.2.1⟩, K1.out⟩
            · obtain ⟨t0, g1, g2, g3⟩ := beneath F.out.2.2 F.out.2.1
              obtain ⟨a, c, hrow, hs⟩ := tree_row TW.out M (by omega)
              have hlenM := HLEN.out M
              obtain ⟨Q, hQ⟩ : ∃ Q, Q = 16 * J := ⟨_, rfl⟩
              have hQ' : (J : Int) * 16 = (Q : Int) := by omega
              have hQn : Q < (lv l M).length := by omega
              obtain ⟨bq, oq, rfl, -⟩ := hs.cells (by omega)
              have hcM := hs.le
              obtain ⟨u1, u2, u3⟩ := hs.sub Q (lv l M).length hQn (Nat.le_refl _)
              have HI : Hid (Calls Try.prog 21 #[.slice (some ⟨bq, oq + Q, none⟩) ((lv l M).length - Q) (c - Q), .func (.func 20) #[] #[.pointer (some ⟨bx, 0, none⟩)]] wr fun e w' => (∃ r, e = .returned (.int .i64 r) ∧ Ix (((lv l M).drop Q).take ((lv l M).length - Q)) d r) ∧ w' = wr) := index21_some bq (oq + Q) _ _ bx _ d wr u2 (by omega) u1 u3 HBX.out
              have HF : Hid (∀ r, Ix (((lv l M).drop Q).take ((lv l M).length - Q)) d r → ∃ t : Nat, r = t ∧ Q + t ≤ 65536 ∧ Clr l b d M (Q + t) ∧ (lv l M).getD (Q + t) 0 ≤ d ∧ Q + t < (lv l M).length) := fun r hr => by
                rcases ix_part (Nat.le_refl _) hQn hr with ⟨rfl, hnone⟩ | ⟨t, rfl, v1, v2, v3⟩
                · have := hnone (16 * J + t0) (by omega) g2
                  omega
                · exact ⟨t, rfl, by omega, (hQ ▸ F.out.1.down).pass (by omega) (.inl (by omega)) v3, v2, v1⟩
              have em : ((M + 1 : Nat) : Int) - 1 = (M : Int) := by omega
              have em' : ((M + 1 : Nat) : Int) = (M : Int) + 1 := by omega
              rw [em']
              have hrow' := hrow
              generalize hnM : (lv l M).length = nM at *
              have HLE : Hid ((lv l M).length = nM) := hnM
              clear hnM
              clear hs u1 u2 u3 F hQ g1 g2 g3 em
              go_wp2_with fail
              refine HI.out.mono ?_
              rintro e w2 ⟨⟨r, rfl, hr⟩, hw⟩
              cases hw
              obtain ⟨t, rfl, y1, y2⟩ := HF.out r hr
              have Y2 : Hid (Clr l b d M (Q + t) ∧ (lv l M).getD (Q + t) 0 ≤ d ∧ Q + t < nM) := y2
              clear y2 hr
              go_wp2
              go_roundw
              case rel => exact ⟨M, Q + t, by omega, by go_num, by go_num, y1, by have := Y2.out; rw [HLE.out]; exact this, by trivial⟩
              case measure => simp [intOf]
      · have FIN : Hid (FR l b d (-1)) := HCL.out.end (by rw [HNL.out]; omega)
        clear HCL HNL HEQ HS HPD
        go_wp2
        go_ret
        exact ⟨⟨-1, rfl, FIN.out⟩, K1.out⟩
end Go.Proofs.Qxb6600532a
