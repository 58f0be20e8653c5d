/-
  zzTreeB1.
-/
import Derived.Test.Qxb6600532aIndex
import Derived.Deep.AppendLies
namespace Go.Proofs.Qxb6600532a
open Go.RowKit
set_option linter.unusedVariables false
set_option linter.unusedSimpArgs false

theorem Try.info22 : (Try.prog.info? 22).map (fun i => (i.zero, i.size, i.bytes)) = some (some (.slice none 0 0), 1, 24) := by kernel_rfl

def lenOf : Value → Nat
  | .slice _ n _ => n
  | _ => 0

/-- A row of the tree: a slice of l, in a block of 16 bit numbers. -/
def RowAt (w : World) (a : Option Addr) (n c : Nat) (l : List Int) : Prop := Sl .u16 w a n c l ∧ ∀ b off, a = some ⟨b, off, none⟩ → 0 < n → ∃ cs m, w.heap[b]? = some (.cells cs 31 m)

theorem RowAt.kept {w w' : World} {a : Option Addr} {n c : Nat} {l : List Int} {p : Nat → Prop} (h : RowAt w a n c l) (hk : Kept p w w') (hp : ∀ b cs m, w.heap[b]? = some (.cells cs 31 m) → ¬ p b) : RowAt w' a n c l := by
  rcases Nat.eq_zero_or_pos n with z | hn
  · subst z
    refine ⟨⟨h.1.len, h.1.le, h.1.max, h.1.nil, fun h0 => absurd h0 (by omega), h.1.wf⟩, fun b off e h0 => absurd h0 (by omega)⟩
  · refine ⟨hk.sl h.1 fun b hb => ?_, fun b off e _ => ?_⟩
    · obtain ⟨off, hb⟩ := hb
      obtain ⟨cs, m, hc⟩ := h.2 b off hb hn
      exact hp b cs m hc
    · obtain ⟨cs, m, hc⟩ := h.2 b off e hn
      exact ⟨cs, m, hk.heap hc (hp b cs m hc)⟩

/-- The tree: row i is level i. -/
def TreeAt (w : World) (B : Nat) (tv : Value) (l : List Int) (h : Nat) : Prop := ∃ vs : List Value, w.ownsRow B 22 1 tv (h + 1) vs ∧ ∀ i, i ≤ h → ∃ a n c, vs[i]? = some (.slice a n c) ∧ RowAt w a n c (lv l i)

theorem lt_of_block {w : World} {b : Nat} {o : Obj} (h : w.heap[b]? = some o) : b < w.heap.size := Go.lt_of_block h

theorem owns_ne {w : World} {base : Nat} {e t : TypeId} {size : Nat} {v : Value} {n : Nat} {xs : List Value} (ho : w.ownsRow base e size v n xs) {G : Nat} {cs : Array Value} {m : Nat × Nat} (hG : w.heap[G]? = some (.cells cs t m)) (hne : e ≠ t) : v.ownBlock ≠ some G := by
  intro he
  rcases ho.2 with ⟨rfl, _⟩ | ⟨g, cap, cur, rfl, hb, hg, rest⟩
  · simp [Value.ownBlock] at he
  · simp [Value.ownBlock] at he
    subst he
    rw [hG] at hg
    simp at hg
    exact hne hg.2.1.symm

theorem cells_new (w : World) (cs : Array Value) (t : TypeId) : ∀ j u, cs.toList[j]? = some u → (w.alloc (.cells cs t)).cell? ((⟨w.heap.size, 0, none⟩ : Addr).add j) = some u := World.news_of_block (heap_new _ _)

theorem TreeAt.kept {w w' : World} {B : Nat} {tv : Value} {l : List Int} {h : Nat} {p : Nat → Prop} (ht : TreeAt w B tv l h) (hk : Kept p w w') (hp : ∀ k, p k → tv.ownBlock ≠ some k) (hq : ∀ b cs m, w.heap[b]? = some (.cells cs 31 m) → ¬ p b) : TreeAt w' B tv l h := by
  obtain ⟨vs, ho, hr⟩ := ht
  refine ⟨vs, hk.owns ho (fun k e h => hp k h e), fun i hi => ?_⟩
  obtain ⟨a, n, c, e, r⟩ := hr i hi
  exact ⟨a, n, c, e, r.kept hk hq⟩

theorem mn_mem (l : List Int) (lo : Nat) : ∀ c, lo + c < l.length → mn l lo c ∈ l
  | 0, h => by simp [mn, List.getElem?_eq_getElem (show lo < l.length by omega)]
  | c + 1, h => by
    rw [mn]
    split
    · simp [List.getElem?_eq_getElem (show lo + c + 1 < l.length by omega)]
    · exact mn_mem l lo c (by omega)

theorem gm_wf (l : List Int) (h : ∀ x ∈ l, (Lit.int .u16 x).wf = true) : ∀ x ∈ gm l, (Lit.int .u16 x).wf = true := by
  intro x hx
  simp only [gm, List.mem_map, List.mem_range] at hx
  obtain ⟨j, hj, rfl⟩ := hx
  unfold up at hj
  exact h _ (mn_mem l _ _ (by omega))

theorem RowAt.of_block {w : World} {g n : Nat} {l : List Int} (hg : w.heap[g]? = some (.cells (l.map (Value.int .u16)).toArray 31 (0, 0))) (hl : l.length = n) (hn : n ≤ 1048576) (hw : ∀ x ∈ l, (Lit.int .u16 x).wf = true) : RowAt w (some ⟨g, 0, none⟩) n n l := by
  refine ⟨⟨hl, Nat.le_refl _, by unfold maxLen; omega, fun e => by simp at e, fun _ => ⟨g, 0, rfl, fun i hi => ?_⟩, hw⟩, fun b off e _ => ?_⟩
  · rw [cell_of_row hg, Nat.zero_add]
    have : i < l.length := by omega
    simp [List.getElem?_eq_getElem this]
  · simp at e
    exact ⟨_, _, by rw [← e.1]; exact hg⟩

theorem hmk0 : ∀ w, (Instr.makeSlice 26 (.int .i64 0) (.int .i64 8)).run Try.prog w = .ok (.slice (some ⟨w.heap.size, 0, none⟩) 0 8) (w.alloc (.cells #[.slice none 0 0, .slice none 0 0, .slice none 0 0, .slice none 0 0, .slice none 0 0, .slice none 0 0, .slice none 0 0, .slice none 0 0] 22)) := fun _ => by kernel_rfl

set_option maxHeartbeats 1000000 in
theorem tree10 (a : Option Addr) (n c : Nat) (l : List Int) (w : World) (hn : n ≤ 65536) (h : RowAt w a n c l) :
    Calls Try.prog 10 #[.slice a n c] w fun e w' => (∃ tv hh, e = .returned tv ∧ TreeAt w' w.heap.size tv l hh ∧ (lv l hh).length ≤ 1 ∧ hh ≤ 65536 ∧ ∀ i, i < hh → 1 < (lv l i).length) ∧ Kept no w w' := by
  have hm0 := hmk0
  obtain ⟨i0, hi, hz0, hz1, hz2⟩ := info_parts Try.info22
  have HR : Hid (RowAt w a n c l) := h
  have HL : Hid (l.length = n) := h.1.len
  clear h
  go_enter Try.func10, Try.ntmps10
  go_wp2
  obtain ⟨w1, hw1⟩ : ∃ w1, w1 = (w.alloc (.cells #[.slice a n c, .slice none 0 0, .slice none 0 0, .slice none 0 0, .slice none 0 0, .slice none 0 0, .slice none 0 0, .slice none 0 0] 22)).alloc (.cells #[.slice a n c] 22) := ⟨_, rfl⟩
  rw [← hw1]
  have k1 : Kept no w w1 := by rw [hw1]; exact ((Kept.refl no w).alloc _).alloc _
  have hg1 : w1.heap[w.heap.size]? = some (.cells #[.slice a n c, .slice none 0 0, .slice none 0 0, .slice none 0 0, .slice none 0 0, .slice none 0 0, .slice none 0 0, .slice none 0 0] 22 (0, 0)) := by
    rw [hw1, Below.heap_alloc _ _ _ (by simp)]; exact heap_new _ _
  have O1 : Hid (w1.ownsRow w.heap.size 22 1 (.slice (some ⟨w.heap.size, 0, none⟩) 1 8) 1 [.slice a n c]) := ⟨rfl, .inr ⟨w.heap.size, 8, _, rfl, Nat.le_refl _, hg1, by omega, by unfold maxLen; omega, rfl, rfl⟩⟩
  have K1 : Hid (Kept no w w1) := k1
  have R1 : Hid (RowAt w1 a n c l) := HR.out.kept k1 (fun _ _ _ _ h => h)
  clear hw1 hg1 k1
  go_loopw [3, 4] (fun tv cv wr => ∃ (k g cap n' c' : Nat) (a' : Option Addr), tv = .slice (some ⟨g, 0, none⟩) (k + 1) cap ∧ cv = .slice a' n' c' ∧ k + n' ≤ 65536 ∧ Hid (TreeAt wr w.heap.size (.slice (some ⟨g, 0, none⟩) (k + 1) cap) l k ∧ RowAt wr a' n' c' (lv l k) ∧ (∀ i, i < k → 1 < (lv l i).length) ∧ Kept no w wr)) (fun _ cv _ => lenOf cv)
  case atStart => exact ⟨0, w.heap.size, 8, n, c, a, rfl, rfl, by omega, ⟨[.slice a n c], O1.out, fun i hi => (Nat.le_zero.1 hi) ▸ ⟨a, n, c, rfl, R1.out⟩⟩, R1.out, fun i hi => by omega, K1.out⟩
  case round =>
    obtain ⟨k, g, cap, n', c', a', rfl, rfl, hkn, H⟩ := hrel
    obtain ⟨wo, rfl⟩ : ∃ wo, wo = wr := ⟨_, rfl⟩
    by_cases hlt : 1 < n'
    · obtain ⟨bc, oc, rfl, -⟩ := H.out.2.1.1.cells (by omega)
      have hN : ((n' : Int) + 16 - 1) / 16 = ((up n' : Nat) : Int) := by unfold up; omega
      have hup1 : 1 ≤ up n' := by unfold up; omega
      have hup2 : up n' < n' := by unfold up; omega
      have hup3 : up n' * 16 < n' + 16 := by unfold up; omega
      have hup4 : n' ≤ up n' * 16 := by unfold up; omega
      have HU : Hid (up n' = up n') := rfl
      have HUP : Hid (∀ m, m = up n' → (gm (lv l k)).length = m) := fun m hm => by rw [gm_length, H.out.2.1.1.len, hm]
      generalize hNN : up n' = N at *
      have HNN : Hid (up n' = N) := hNN
      clear hNN HU
      have hmk := run_make_row' (P := Try.prog) 22 31 (.int .u16 0) 2 Try.underlying22 Try.info31 rfl .i64 .i64 N (by omega) (by omega)
      have hd1 : decide ((1 : Int) < (n' : Int)) = true := decide_eq_true (by omega)
      have HC : Hid (∀ wr, Kept no wo wr → ∀ i, i < n' → wr.cell? ⟨bc, oc + i, none⟩ = some (.int .u16 ((lv l k).getD i 0))) := fun wr hk i hi => by
        obtain ⟨b', o', he, hc⟩ := (hk.sl H.out.2.1.1 (fun _ _ h => h)).cells (by omega)
        simp at he
        obtain ⟨rfl, rfl⟩ := he
        exact hc i hi
      have HCL : Hid ((lv l k).length = n') := H.out.2.1.1.len
      have hcc := H.out.2.1.1.le
      go_wp2
      rw [hN]
      clear hN
      go_loopw [7] (fun jv wr => ∃ j : Nat, j ≤ N ∧ jv = .int .i64 j ∧ Hid (∃ cur : List Value, cur.length = N ∧ cur.take j = ((gm (lv l k)).take j).map (Value.int .u16) ∧ wr.heap[wo.heap.size]? = some (.cells cur.toArray 31 (0, 0)) ∧ Kept no wo wr)) (fun jv _ => N - (intOf jv).toNat)
      case atStart => exact ⟨0, by omega, rfl, (madeCells #[.int .u16 0] N).toList, by simp [size_madeCells], by simp, heap_new _ _, (Kept.refl no wo).alloc _⟩
      case round =>
        obtain ⟨j, hj, rfl, HJ⟩ := hrel
        by_cases hjn : j < N
        · obtain ⟨cur, q1, q2, q3, q4⟩ := HJ.out
          have Q : Hid (cur.length = N ∧ cur.take j = ((gm (lv l k)).take j).map (Value.int .u16) ∧ wr.heap[wo.heap.size]? = some (.cells cur.toArray 31 (0, 0)) ∧ Kept no wo wr) := ⟨q1, q2, q3, q4⟩
          have HCW : Hid (∀ i, i < n' → wr.cell? ⟨bc, oc + i, none⟩ = some (.int .u16 ((lv l k).getD i 0))) := HC.out wr q4
          have hst : wr.cell? ⟨wo.heap.size, j, none⟩ = some (cur[j]'(by omega)) := by rw [cell_of_row q3, List.getElem?_eq_getElem (by omega)]
          have hfr := frozen_of_row q3 j
          generalize cur[j]'(by omega) = v0 at hst
          obtain ⟨L, hLd⟩ : ∃ L, L = 16 * j := ⟨_, rfl⟩
          have hL : (j : Int) * 16 = (L : Int) := by omega
          have hL1 : L < n' := by omega
          have HLd : Hid (L = 16 * j) := hLd
          have x0 := HCW.out L hL1
          have GE : Hid ((gm (lv l k)).getD j 0 = mn (lv l k) L (min (L + 16) n' - L - 1)) := by
            show _ = _
            rw [gm_getD _ _ (by rw [HCL.out, HNN.out]; exact hjn), HCL.out, hLd]
          clear q1 q2 q3 q4 hLd HJ
          by_cases hA : L + 16 ≤ n'
          · have hdA : decide ((n' : Int) < (L : Int) + 16) = false := decide_eq_false (by omega)
            obtain ⟨wj, rfl⟩ : ∃ wj, wj = wr := ⟨_, rfl⟩
            go_wp2
            go_loopw [10, 11] (fun mv tv wr => ∃ q : Nat, L + 1 + q ≤ (L + 16) ∧ mv = .int .u16 (mn (lv l k) L q) ∧ tv = .int .i64 ((L : Int) + 1 + q) ∧ wr = wj) (fun _ tv _ => (L + 16) - (intOf tv).toNat)
            case atStart => exact ⟨0, by omega, by simp [mn], by go_num, rfl⟩
            case round =>
              obtain ⟨q, hq, rfl, rfl, hwq⟩ := hrel
              subst hwq
              by_cases hqe : L + 1 + q < (L + 16)
              · have y0 := HCW.out (L + 1 + q) (by omega)
                have MS : Hid (mn (lv l k) L (q + 1) = if (lv l k).getD (L + 1 + q) 0 < mn (lv l k) L q then (lv l k).getD (L + 1 + q) 0 else mn (lv l k) L q) := by
                  show _ = _
                  rw [mn, show L + q + 1 = L + 1 + q by omega]
                generalize (lv l k).getD (L + 1 + q) 0 = y at y0 MS
                generalize hmm : mn (lv l k) L q = mm at *
                clear hmm
                have hcast : ((L : Int) + 1 + (q : Int)) = ((L + 1 + q : Nat) : Int) := by omega
                generalize hTT : L + 1 + q = T at *
                have HTT : Hid (L + 1 + q = T) := hTT
                clear hTT
                rw [hcast]
                clear hcast
                by_cases hlt2 : y < mm
                · go_wp2
                  go_roundw
                  case rel => exact ⟨q + 1, by have := HTT.out; omega, by rw [MS.out, if_pos hlt2], by have := HTT.out; go_num, by trivial⟩
                  case measure => simp [intOf]; omega
                · go_wp2
                  go_roundw
                  case rel => exact ⟨q + 1, by have := HTT.out; omega, by rw [MS.out, if_neg hlt2], by have := HTT.out; go_num, by trivial⟩
                  case measure => simp [intOf]; omega
              · have GQ : Hid ((gm (lv l k)).getD j 0 = mn (lv l k) L q) := by
                  show _ = _
                  rw [GE.out, show min (L + 16) n' - L - 1 = q by omega]
                generalize mn (lv l k) L q = mm at *
                go_wp2
                go_roundw
                case rel =>
                  refine ⟨j + 1, by omega, by go_num, cur.set j (.int .u16 mm), by simp [Q.out.1], ?_, heap_setCell_row Q.out.2.2.1 _ _, ?_⟩
                  · have hj1 : j < cur.length := by rw [Q.out.1]; exact hjn
                    have hj2 : j < (gm (lv l k)).length := by rw [HUP.out N rfl]; exact hjn
                    rw [List.take_succ_eq_append_getElem (by simpa using hj1), List.take_set_of_le (Nat.le_refl _), Q.out.2.1, List.take_succ_eq_append_getElem hj2, List.map_append]
                    have e := GQ.out
                    simp [List.getElem?_eq_getElem hj2] at e
                    simp [e]
                  · exact Kept.setCell (p := no) Q.out.2.2.2 (q := ⟨wo.heap.size, j, none⟩) (.inr (Nat.le_refl _)) _
                case measure => simp [intOf]; omega
          · have hdA : decide ((n' : Int) < (L : Int) + 16) = true := decide_eq_true (by omega)
            obtain ⟨wj, rfl⟩ : ∃ wj, wj = wr := ⟨_, rfl⟩
            go_wp2
            go_loopw [10, 11] (fun mv tv wr => ∃ q : Nat, L + 1 + q ≤ n' ∧ mv = .int .u16 (mn (lv l k) L q) ∧ tv = .int .i64 ((L : Int) + 1 + q) ∧ wr = wj) (fun _ tv _ => n' - (intOf tv).toNat)
            case atStart => exact ⟨0, by omega, by simp [mn], by go_num, rfl⟩
            case round =>
              obtain ⟨q, hq, rfl, rfl, hwq⟩ := hrel
              subst hwq
              by_cases hqe : L + 1 + q < n'
              · have y0 := HCW.out (L + 1 + q) (by omega)
                have MS : Hid (mn (lv l k) L (q + 1) = if (lv l k).getD (L + 1 + q) 0 < mn (lv l k) L q then (lv l k).getD (L + 1 + q) 0 else mn (lv l k) L q) := by
                  show _ = _
                  rw [mn, show L + q + 1 = L + 1 + q by omega]
                generalize (lv l k).getD (L + 1 + q) 0 = y at y0 MS
                generalize hmm : mn (lv l k) L q = mm at *
                clear hmm
                have hcast : ((L : Int) + 1 + (q : Int)) = ((L + 1 + q : Nat) : Int) := by omega
                generalize hTT : L + 1 + q = T at *
                have HTT : Hid (L + 1 + q = T) := hTT
                clear hTT
                rw [hcast]
                clear hcast
                by_cases hlt2 : y < mm
                · go_wp2
                  go_roundw
                  case rel => exact ⟨q + 1, by have := HTT.out; omega, by rw [MS.out, if_pos hlt2], by have := HTT.out; go_num, by trivial⟩
                  case measure => simp [intOf]; omega
                · go_wp2
                  go_roundw
                  case rel => exact ⟨q + 1, by have := HTT.out; omega, by rw [MS.out, if_neg hlt2], by have := HTT.out; go_num, by trivial⟩
                  case measure => simp [intOf]; omega
              · have GQ : Hid ((gm (lv l k)).getD j 0 = mn (lv l k) L q) := by
                  show _ = _
                  rw [GE.out, show min (L + 16) n' - L - 1 = q by omega]
                generalize mn (lv l k) L q = mm at *
                go_wp2
                go_roundw
                case rel =>
                  refine ⟨j + 1, by omega, by go_num, cur.set j (.int .u16 mm), by simp [Q.out.1], ?_, heap_setCell_row Q.out.2.2.1 _ _, ?_⟩
                  · have hj1 : j < cur.length := by rw [Q.out.1]; exact hjn
                    have hj2 : j < (gm (lv l k)).length := by rw [HUP.out N rfl]; exact hjn
                    rw [List.take_succ_eq_append_getElem (by simpa using hj1), List.take_set_of_le (Nat.le_refl _), Q.out.2.1, List.take_succ_eq_append_getElem hj2, List.map_append]
                    have e := GQ.out
                    simp [List.getElem?_eq_getElem hj2] at e
                    simp [e]
                  · exact Kept.setCell (p := no) Q.out.2.2.2 (q := ⟨wo.heap.size, j, none⟩) (.inr (Nat.le_refl _)) _
                case measure => simp [intOf]; omega
        · obtain rfl : j = N := by omega
          obtain ⟨wj, rfl⟩ : ∃ wj, wj = wr := ⟨_, rfl⟩
          obtain ⟨cur, q1, q2, q3, q4⟩ := HJ.out
          have hlen := HUP.out j rfl
          rw [List.take_of_length_le (by omega), List.take_of_length_le (by omega)] at q2
          rw [q2] at q3
          have RN : Hid (RowAt wj (some ⟨wo.heap.size, 0, none⟩) j j (lv l (k + 1))) := RowAt.of_block q3 hlen (by omega) (gm_wf _ H.out.2.1.1.wf)
          have TK : Hid (TreeAt wj w.heap.size (.slice (some ⟨g, 0, none⟩) (k + 1) cap) l k) := H.out.1.kept q4 (fun _ h => h.elim) (fun _ _ _ _ h => h)
          have KW : Hid (Kept no w wj) := H.out.2.2.2.same q4
          have HLK : Hid (∀ i, i < k + 1 → 1 < (lv l i).length) := fun i hi => by
            rcases Nat.lt_or_ge i k with h' | h'
            · exact H.out.2.2.1 i h'
            · obtain rfl : i = k := by omega
              rw [HCL.out]; exact hlt
          obtain ⟨vs, ho, hrows⟩ := TK.out
          have OW : Hid (wj.ownsRow w.heap.size 22 1 (.slice (some ⟨g, 0, none⟩) (k + 1) cap) (k + 1) vs) := ho
          have HRS : Hid (∀ i, i ≤ k → ∃ a n c, vs[i]? = some (.slice a n c) ∧ RowAt wj a n c (lv l i)) := hrows
          have HNW : Hid (∀ j' u, ([.slice (some ⟨wo.heap.size, 0, none⟩) j j] : List Value)[j']? = some u → (wj.alloc (.cells #[.slice (some ⟨wo.heap.size, 0, none⟩) j j] 22)).cell? ((⟨wj.heap.size, 0, none⟩ : Addr).add j') = some u) := cells_new _ _ _
          have hsz := KW.out.size
          have hvl : Hid (vs.length = k + 1) := by have := ho.1; show _ = _; omega
          clear q1 q2 q3 q4 hlen ho hrows HJ
          go_wp2_with (at_builtin; (refine wpList_append_lies _ (by rfl) (.tmp 68) (.tmp 70) 26 (by rfl) w.heap.size 22 i0 _ 1 24 Try.underlying26 hi hz0 hz1 hz2 (by rfl) (by omega) (.slice (some ⟨g, 0, none⟩) (k + 1) cap) (k + 1) vs (by rfl) (by exact OW.out.alloc _) ⟨wj.heap.size, 0, none⟩ 1 1 [.slice (some ⟨wo.heap.size, 0, none⟩) j j] (by rfl) (by rfl) (by exact HNW.out) (by simp [Value.oneCell']) (by omega) (by unfold maxLen; omega) (by omega) (by simp; omega) (wj.heap.size + 1) (by simp) ?_); intro g3 cap3 w3 hown3 hgrow hat hlt3)
          go_roundw
          case rel =>
            have kk : Kept (fun x => x = g) wj w3 := Kept.grown ((Kept.refl _ wj).alloc _) hgrow (fun x hx => .inl (by simpa [Value.ownBlock] using hx.symm))
            have hrk : ∀ {a n c l'}, RowAt wj a n c l' → RowAt w3 a n c l' := fun hr => hr.kept kk (fun b cs m hb e => owns_ne OW.out hb (by decide) (by rw [e]; rfl))
            have hgB : w.heap.size ≤ g := (OW.out.lt g rfl).1
            refine ⟨k + 1, g3, cap3, j, j, some ⟨wo.heap.size, 0, none⟩, rfl, rfl, by omega, ⟨vs ++ [.slice (some ⟨wo.heap.size, 0, none⟩) j j], hown3, fun i hi => ?_⟩, hrk RN.out, HLK.out, ?_⟩
            · rcases Nat.lt_or_ge i (k + 1) with h' | h'
              · obtain ⟨a2, n2, c2, e2, r2⟩ := HRS.out i (by omega)
                exact ⟨a2, n2, c2, by rw [List.getElem?_append_left (by rw [hvl.out]; exact h')]; exact e2, hrk r2⟩
              · obtain rfl : i = k + 1 := by omega
                refine ⟨_, _, _, ?_, hrk RN.out⟩
                rw [List.getElem?_append_right (by rw [hvl.out]; exact Nat.le_refl _), hvl.out]; simp
            · exact KW.out.trans kk (fun _ _ h => h) (fun x hx e => by omega)
          case measure => simp [lenOf]; omega
    · go_wp2
      go_ret
      refine ⟨⟨_, k, rfl, H.out.1, ?_, by omega, H.out.2.2.1⟩, H.out.2.2.2⟩
      rw [H.out.2.1.1.len]; omega
end Go.Proofs.Qxb6600532a
