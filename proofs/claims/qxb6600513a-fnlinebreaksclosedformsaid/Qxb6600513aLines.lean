/-
  policy.lineBreaks.
-/
import Derived.Test.Qxb6600513aBreak
import Derived.Deep.QuietTactic
import Derived.BigQuiet
namespace Go.Proofs.Qxb6600513a
open Go.RowKit
set_option linter.unusedVariables false

theorem rel_pass {l : List Int} {n i k a : Nat} (hl : l.length = n) (hi : i < n) (h : brk2 (l.drop i) = 0) (E1 : Hid (k + cnt 0 (l.drop i) = cnt 0 l)) (E2 : Hid (aft 0 (l.drop i) a = aft 0 l n)) :
    Hid (k + cnt 0 (l.drop (i + 1)) = cnt 0 l) ∧ Hid (aft 0 (l.drop (i + 1)) a = aft 0 l n) := by
  have h1 := E1.out
  have h2 := E2.out
  rw [cnt_none l i (by omega) h] at h1
  rw [aft_none l i a (by omega) h] at h2
  exact ⟨h1, h2⟩

theorem rel_step {l : List Int} {n i k a m : Nat} (hl : l.length = n) (hi : i < n) (h : brk2 (l.drop i) = m) (hm : 0 < m) (E1 : Hid (k + cnt 0 (l.drop i) = cnt 0 l)) (E2 : Hid (aft 0 (l.drop i) a = aft 0 l n)) :
    Hid (k + 1 + cnt 0 (l.drop (i + m)) = cnt 0 l) ∧ Hid (aft 0 (l.drop (i + m)) (n - i - m) = aft 0 l n) := by
  have h1 := E1.out
  have h2 := E2.out
  rw [cnt_some l i m (by omega) h hm] at h1
  rw [aft_some l i m a (by omega) h hm, hl] at h2
  exact ⟨show _ = _ by omega, h2⟩

/-- What the head of the rest says. -/
theorem head_cases (x : Int) : ((x == 10) = true ∧ (x == 13) = false) ∨ ((x == 10) = false ∧ (x == 13) = true) ∨ ((x == 10) = false ∧ (x == 13) = false ∧ (x == 194) = true) ∨
    ((x == 10) = false ∧ (x == 13) = false ∧ (x == 194) = false ∧ (x == 226) = true) ∨ ((x == 10) = false ∧ (x == 13) = false ∧ (x == 194) = false ∧ (x == 226) = false) := by
  simp only [beq_iff_eq, beq_eq_false_iff_ne]
  omega

theorem drop_head (l : List Int) (i : Nat) (hi : i < l.length) : l.drop i = l.getD i 0 :: l.drop (i + 1) := by
  rw [List.drop_eq_getElem_cons hi]; simp [List.getElem?_eq_getElem hi]

theorem brk2_notcr (x : Int) (r : List Int) (h : (x == 13) = false) : brk2 (x :: r) = brk (x :: r) := by
  have e : (13 == x) = false := by simp at h ⊢; omega
  simp [brk2, hp_cons, e]

theorem brk_cr (x : Int) (r : List Int) (h : (x == 13) = true) : brk (x :: r) = 1 := by
  simp at h; subst h
  simp [brk, hp_cons, hp_nil]

theorem brk2_crlf (x y : Int) (r : List Int) (h : (x == 13) = true) (h2 : (y == 10) = true) : brk2 (x :: y :: r) = 2 := by
  simp at h h2; subst h; subst h2
  simp [brk2, hp_cons, hp_nil]

theorem brk2_cr (x y : Int) (r : List Int) (h : (x == 13) = true) (h2 : (y == 10) = false) : brk2 (x :: y :: r) = 1 := by
  have e : (10 == y) = false := by simp at h2 ⊢; omega
  rw [← brk_cr x (y :: r) h]
  simp at h; subst h
  simp [brk2, hp_cons, e]

theorem brk2_cr_end (x : Int) (h : (x == 13) = true) : brk2 [x] = 1 := by
  rw [← brk_cr x [] h]
  simp at h; subst h
  simp [brk2, hp_cons, hp_none]

set_option maxHeartbeats 1000000 in
theorem lineBreaks37 (b off n c : Nat) (l : List Int) (w : World) (hl : l.length = n) (hn : n ≤ 1048577) (hnc : n ≤ c) (hc : c ≤ maxLen)
    (hcell : ∀ i, i < n → w.cell? ⟨b, off + i, none⟩ = some (.int .u8 (l.getD i 0))) (wx : ∀ x ∈ l, 0 ≤ x ∧ x ≤ 255) :
    Calls Try.prog 37 #[.slice (some ⟨b, off, none⟩) n c] w fun e w' => e = .returned (.tuple #[.int .i64 (cnt 0 l), .int .i64 (aft 0 l n)]) ∧ Below w.heap.size w w' := by
  have hlt : 0 < n → b < w.heap.size := fun h0 => by
    have := hcell 0 h0
    rcases Nat.lt_or_ge b w.heap.size with h' | h'
    · exact h'
    · simp [World.cell?, Array.getElem?_eq_none h'] at this
  have HC : Hid (∀ wr, Below w.heap.size w wr → ∀ i, i < n → wr.cell? ⟨b, off + i, none⟩ = some (.int .u8 (l.getD i 0))) := fun wr hb i hi => by
    rw [hb.cell (p := ⟨b, off + i, none⟩) (hlt (by omega))]; exact hcell i hi
  have HL : Hid (l.length = n) := hl
  clear hcell hl hlt
  go_enter Try.func37, Try.ntmps37
  go_wp2
  go_loopw [2, 3, 4] (fun br af iv wr => ∃ i k a : Nat, i ≤ n ∧ k ≤ i ∧ a ≤ n ∧ br = .int .i64 k ∧ af = .int .i64 a ∧ iv = .int .i64 i ∧ Hid (k + cnt 0 (l.drop i) = cnt 0 l) ∧ Hid (aft 0 (l.drop i) a = aft 0 l n) ∧ Below w.heap.size w wr) (fun _ _ iv _ => n - (intOf iv).toNat)
  case atStart => exact ⟨0, 0, n, by omega, by omega, by omega, rfl, rfl, rfl, show _ = _ by simp, show _ = _ by simp, Below.refl _ _⟩
  case round =>
    obtain ⟨i, k, a, hi, hk, ha, rfl, rfl, rfl, E1, E2, hb⟩ := hrel
    by_cases hin : i < n
    · have hil : i < l.length := by have := HL.out; omega
      have hx := HC.out wr hb i hin
      have hd := drop_head l i hil
      have HCx : Hid (∀ w', Below w.heap.size w w' → w'.cell? ⟨b, off + i, none⟩ = some (.int .u8 (l.getD i 0))) := fun w' hb' => HC.out w' hb' i hin
      have HB : Hid (Calls Try.prog 40 #[.slice (some ⟨b, off, none⟩) n c, .int .i64 i] wr fun e w' => e = .returned (.int .i64 (brk (l.drop i))) ∧ Below wr.heap.size wr w') :=
        breakAt40 b off n c i l wr HL.out hn hnc hc hin (HC.out wr hb) wx
      have HX : Hid (l.drop i = l.getD i 0 :: l.drop (i + 1)) := hd
      clear hd
      generalize l.getD i 0 = x at hx HX HCx
      obtain ⟨m, hm⟩ : ∃ m, m = brk (l.drop i) := ⟨_, rfl⟩
      rw [← hm] at HB
      have HM : Hid (m = brk (l.drop i)) := hm
      clear hm
      have hm3 : m ≤ 3 := by rw [HM.out]; exact brk_le _
      have hmn : m ≤ n - i := by have := brk_len (l.drop i); rw [← HM.out] at this; have := HL.out; simp at *; omega
      have HK : Hid (∀ w', Below wr.heap.size wr w' → Below w.heap.size w w') := fun w' hb' => hb.trans (hb'.mono hb.size)
      rcases head_cases x with ⟨q1, q2⟩ | ⟨q1, q2⟩ | ⟨q1, q2, q3⟩ | ⟨q1, q2, q3, q4⟩ | ⟨q1, q2, q3, q4⟩
      case inr.inr.inr.inr =>
        have R := rel_pass HL.out hin (by rw [HX.out]; simp at q1 q2 q3 q4; exact (brk_other x _ q1 q2 q3 q4).2) E1 E2
        go_wp2
        go_roundw
        case rel => exact ⟨i + 1, k, a, by omega, by omega, by omega, rfl, rfl, by go_num, R.1, R.2, hb⟩
        case measure => simp [intOf]; omega
      case inr.inl =>
        have hm1 : m = 1 := by rw [HM.out, HX.out]; exact brk_cr _ _ q2
        subst hm1
        by_cases hi1 : i + 1 < n
        · have HCy : Hid (∀ w', Below w.heap.size w w' → w'.cell? ⟨b, off + (i + 1), none⟩ = some (.int .u8 (l.getD (i + 1) 0))) := fun w' hb' => HC.out w' hb' (i + 1) hi1
          have HY : Hid (l.drop (i + 1) = l.getD (i + 1) 0 :: l.drop (i + 1 + 1)) := drop_head l (i + 1) (by have := HL.out; omega)
          generalize l.getD (i + 1) 0 = y at HCy HY
          cases hy : y == 10
          · have R := rel_step HL.out hin (show brk2 (l.drop i) = 1 by rw [HX.out, HY.out]; exact brk2_cr x y _ q2 hy) (by omega) E1 E2
            go_wp2_with (go_at_call 40; refine HB.out.mono ?_; rintro e w1 ⟨rfl, hb1⟩; have hx1 := HCx.out w1 (HK.out _ hb1); have hy1 := HCy.out w1 (HK.out _ hb1))
            go_roundw
            case rel => exact ⟨i + 1, k + 1, n - i - 1, by omega, by omega, by omega, by go_num, by go_num, by go_num, R.1, R.2, HK.out _ hb1⟩
            case measure => simp [intOf]; omega
          · have R := rel_step HL.out hin (show brk2 (l.drop i) = 2 by rw [HX.out, HY.out]; exact brk2_crlf x y _ q2 hy) (by omega) E1 E2
            go_wp2_with (go_at_call 40; refine HB.out.mono ?_; rintro e w1 ⟨rfl, hb1⟩; have hx1 := HCx.out w1 (HK.out _ hb1); have hy1 := HCy.out w1 (HK.out _ hb1))
            go_roundw
            case rel => exact ⟨i + 2, k + 1, n - i - 2, by omega, by omega, by omega, by go_num, by go_num, by go_num, R.1, R.2, HK.out _ hb1⟩
            case measure => simp [intOf]; omega
        · have R := rel_step HL.out hin (show brk2 (l.drop i) = 1 by rw [HX.out, show l.drop (i + 1) = [] from List.drop_eq_nil_of_le (by have := HL.out; omega)]; exact brk2_cr_end x q2) (by omega) E1 E2
          go_wp2_with (go_at_call 40; refine HB.out.mono ?_; rintro e w1 ⟨rfl, hb1⟩; have hx1 := HCx.out w1 (HK.out _ hb1))
          go_roundw
          case rel => exact ⟨i + 1, k + 1, n - i - 1, by omega, by omega, by omega, by go_num, by go_num, by go_num, R.1, R.2, HK.out _ hb1⟩
          case measure => simp [intOf]; omega
      all_goals
        by_cases hm0 : m = 0
        · subst hm0
          have R := rel_pass HL.out hin (by rw [HX.out, brk2_notcr x _ q2, ← HX.out, ← HM.out]) E1 E2
          go_wp2_with (go_at_call 40; refine HB.out.mono ?_; rintro e w1 ⟨rfl, hb1⟩)
          go_roundw
          case rel => exact ⟨i + 1, k, a, by omega, by omega, by omega, rfl, rfl, by go_num, R.1, R.2, HK.out _ hb1⟩
          case measure => simp [intOf]; omega
        · have hm0' : ((m : Int) == 0) = false := by simp; omega
          have R := rel_step HL.out hin (show brk2 (l.drop i) = m by rw [HX.out, brk2_notcr x _ q2, ← HX.out, ← HM.out]) (by omega) E1 E2
          go_wp2_with (go_at_call 40; refine HB.out.mono ?_; rintro e w1 ⟨rfl, hb1⟩; have hx1 := HCx.out w1 (HK.out _ hb1))
          go_roundw
          case rel => exact ⟨i + m, k + 1, n - i - m, by omega, by omega, by omega, by go_num, by go_num, by go_num, R.1, R.2, HK.out _ hb1⟩
          case measure => simp [intOf]; omega
    · go_wp2
      go_ret2
      have e : l.drop i = [] := List.drop_eq_nil_of_le (by have := HL.out; omega)
      have h1 := E1.out
      have h2 := E2.out
      rw [e] at h1 h2
      simp [cnt, aft] at h1 h2
      rw [← h1, ← h2]
      exact ⟨rfl, hb⟩
end Go.Proofs.Qxb6600513a
