/-
  zzEndsBreakB1.
-/
import Derived.Test.Qxb6600513aBase
import Derived.Test.Qxb6600513aClosedLaw
namespace Go.Proofs.Qxb6600513a
open Go.RowKit
set_option linter.unusedVariables false

theorem ret_bool {a b : Bool} (h : a = b) : Ending.returned (.bool a) = .returned (.bool b) := by rw [h]

theorem endsB_10 {l : List Int} {j : Nat} {x : Int} (hx : x = l.getD j 0) (h : x = 10) : endsB l j = true := by
  unfold endsB endsAt; rw [← hx, h]; rfl

theorem endsB_13 {l : List Int} {j : Nat} {x : Int} (hx : x = l.getD j 0) (h : x = 13) : endsB l j = !hp (l.drop (j + 1)) [10] := by
  unfold endsB endsAt; rw [← hx, h]; simp

theorem endsB_133 {l : List Int} {j : Nat} {x : Int} (hx : x = l.getD j 0) (h : x = 133) : endsB l j = (p1At l j == 194) := by
  unfold endsB endsAt; rw [← hx, h]; simp

theorem endsB_168 {l : List Int} {j : Nat} {x : Int} (hx : x = l.getD j 0) (h : x = 168 ∨ x = 169) : endsB l j = (p2At l j == 226 && p1At l j == 128) := by
  unfold endsB endsAt; rw [← hx]; rcases h with h | h <;> rw [h] <;> simp

theorem endsB_other {l : List Int} {j : Nat} {x : Int} (hx : x = l.getD j 0) (h1 : (x == 10) = false) (h2 : (x == 13) = false) (h3 : (x == 133) = false) (h4 : (x == 168) = false) (h5 : (x == 169) = false) : endsB l j = false := by
  unfold endsB endsAt; rw [← hx, h1, h2, h3, h4, h5]; rfl

theorem hp_first (y : Int) (r : List Int) : hp (y :: r) [10] = (y == 10) := by
  rw [hp_cons, hp_nil, Bool.and_true, Bool.eq_iff_iff]; simp; omega

set_option maxHeartbeats 1000000 in
theorem ends38 (b off n c j : Nat) (l : List Int) (w : World) (hl : l.length = n) (hn : n ≤ 1048577) (hj : j < n)
    (hcell : ∀ i, i < n → w.cell? ⟨b, off + i, none⟩ = some (.int .u8 (l.getD i 0))) :
    Calls Try.prog 38 #[.slice (some ⟨b, off, none⟩) n c, .int .i64 j] w fun e w' => e = .returned (.bool (endsB l j)) ∧ w' = w := by
  have hx := hcell j hj
  obtain ⟨x, hxe⟩ : ∃ x, x = l.getD j 0 := ⟨_, rfl⟩
  rw [← hxe] at hx
  by_cases q1 : x = 10
  · have HE : Hid (endsB l j = true) := endsB_10 hxe q1
    clear hxe hcell
    subst q1
    go_enter Try.func38, Try.ntmps38
    go_wp2
    go_ret
    exact ⟨ret_bool HE.out.symm, rfl⟩
  have q1' : (x == 10) = false := by simpa using q1
  by_cases q2 : x = 13
  · have HE : Hid (endsB l j = !hp (l.drop (j + 1)) [10]) := endsB_13 hxe q2
    clear hxe q1'
    subst q2
    by_cases hj1 : j + 1 = n
    · have hj1' : ((j : Int) + 1 == (n : Int)) = true := by simp; omega
      have HD : Hid (l.drop (j + 1) = []) := List.drop_eq_nil_of_le (by omega)
      clear hcell
      go_enter Try.func38, Try.ntmps38
      go_wp2
      go_ret
      exact ⟨ret_bool (by rw [HE.out, HD.out]; rfl), rfl⟩
    · have hj1' : ((j : Int) + 1 == (n : Int)) = false := by simp; omega
      have hj2 : j + 1 < n := by omega
      have hy := hcell (j + 1) hj2
      have HD : Hid (l.drop (j + 1) = l.getD (j + 1) 0 :: l.drop (j + 1 + 1)) := by
        show _ = _
        rw [List.drop_eq_getElem_cons (by omega)]; simp [List.getElem?_eq_getElem (show j + 1 < l.length by omega)]
      generalize l.getD (j + 1) 0 = y at hy HD
      clear hcell hj1
      go_enter Try.func38, Try.ntmps38
      go_wp2
      go_ret
      exact ⟨ret_bool (by rw [HE.out, HD.out, hp_first]; rfl), rfl⟩
  have q2' : (x == 13) = false := by simpa using q2
  by_cases q3 : x = 133
  · have HE : Hid (endsB l j = (p1At l j == 194)) := endsB_133 hxe q3
    clear hxe q1' q2' q1 q2
    subst q3
    by_cases hj1 : 1 ≤ j
    · have hp := hcell (j - 1) (by omega)
      have HP : Hid (p1At l j = l.getD (j - 1) 0) := by show _ = _; rw [p1At, if_pos hj1]
      generalize l.getD (j - 1) 0 = y at hp HP
      clear hcell
      go_enter Try.func38, Try.ntmps38
      go_wp2
      go_ret
      exact ⟨ret_bool (by rw [HE.out, HP.out]), rfl⟩
    · have HP : Hid (p1At l j = -1) := by show _ = _; rw [p1At, if_neg hj1]
      clear hcell
      go_enter Try.func38, Try.ntmps38
      go_wp2
      go_ret
      exact ⟨ret_bool (by rw [HE.out, HP.out]; rfl), rfl⟩
  have q3' : (x == 133) = false := by simpa using q3
  by_cases q4 : x = 168 ∨ x = 169
  · have HE : Hid (endsB l j = (p2At l j == 226 && p1At l j == 128)) := endsB_168 hxe q4
    clear hxe q1' q2' q1 q2 q3 q3'
    by_cases hj1 : 2 ≤ j
    · have hp := hcell (j - 1) (by omega)
      have hp2 := hcell (j - 2) (by omega)
      have HP : Hid (p1At l j = l.getD (j - 1) 0) := by show _ = _; rw [p1At, if_pos (by omega)]
      have HP2 : Hid (p2At l j = l.getD (j - 2) 0) := by show _ = _; rw [p2At, if_pos hj1]
      generalize l.getD (j - 1) 0 = y at hp HP
      generalize l.getD (j - 2) 0 = z at hp2 HP2
      clear hcell
      cases hz : z == 226
      all_goals
        rcases q4 with rfl | rfl
        all_goals
          go_enter Try.func38, Try.ntmps38
          go_wp2
          go_ret
          exact ⟨ret_bool (by rw [HE.out, HP.out, HP2.out, hz]; simp), rfl⟩
    · have HP2 : Hid (p2At l j = -1) := by show _ = _; rw [p2At, if_neg hj1]
      clear hcell
      rcases q4 with rfl | rfl
      all_goals
        go_enter Try.func38, Try.ntmps38
        go_wp2
        go_ret
        exact ⟨ret_bool (by rw [HE.out, HP2.out]; rfl), rfl⟩
  have q4' : (x == 168) = false := by simp at *; omega
  have q5' : (x == 169) = false := by simp at *; omega
  have HE : Hid (endsB l j = false) := endsB_other hxe q1' q2' q3' q4' q5'
  clear hxe hcell q1 q2 q3 q4
  go_enter Try.func38, Try.ntmps38
  go_wp2
  go_ret
  exact ⟨ret_bool HE.out.symm, rfl⟩
end Go.Proofs.Qxb6600513a
