/-
  The plain law: a line feed parts a text in two.
-/
import Derived.Test.Qxb6600513aPlain
namespace Go.Proofs.Qxb6600513a

def NoCr (a : List Int) : Prop := ∀ p, a ≠ p ++ [13]

theorem NoCr.drop {a : List Int} (h : NoCr a) (k : Nat) : NoCr (a.drop k) := fun p e => h (a.take k ++ p) (by
  rw [List.append_assoc, ← e, List.take_append_drop])

theorem brk2_app {x : Int} {r : List Int} (h : NoCr (x :: r)) (b : List Int) : brk2 (x :: r ++ 10 :: b) = brk2 (x :: r) := by
  rcases r with _ | ⟨y, _ | ⟨z, t⟩⟩
  · have hx : x ≠ 13 := fun e => h [] (by rw [e]; rfl)
    have e : (13 == x) = false := beq_eq_false_iff_ne.2 (Ne.symm hx)
    simp [brk2, brk, hp_cons, hp_nil, hp_none, e]
  · simp [brk2, brk, hp_cons, hp_nil, hp_none]
  · simp [brk2, brk, hp_cons, hp_nil]

theorem brk2_lf (b : List Int) : brk2 (10 :: b) = 1 := by simp [brk2, brk, hp_cons, hp_nil]

theorem split_law (n : Nat) : ∀ (a b : List Int) (d : Nat), a.length ≤ n → NoCr a → cnt 0 (a ++ 10 :: b) = cnt 0 a + 1 + cnt 0 b ∧ aft 0 (a ++ 10 :: b) d = aft 0 b b.length := by
  induction n with
  | zero =>
    intro a b d hn h
    obtain rfl : a = [] := List.eq_nil_of_length_eq_zero (by omega)
    rw [List.nil_append, cnt, aft, brk2_lf]
    simp [cnt, brk2_lf]
  | succ n ih =>
    intro a b d hn h
    cases a with
    | nil =>
      rw [List.nil_append, cnt, aft, brk2_lf]
      simp [cnt, brk2_lf]
    | cons x r =>
      have hb := brk2_app h b
      have hr : NoCr r := by simpa using h.drop 1
      simp only [List.length_cons] at hn
      rw [List.cons_append] at hb ⊢
      rw [cnt, aft, hb, cnt]
      by_cases h0 : brk2 (x :: r) = 0
      · rw [if_pos h0, if_pos h0, if_pos h0]
        exact ih r b d (by omega) hr
      · rw [if_neg h0, if_neg h0, if_neg h0]
        have hl := brk2_len (x :: r)
        simp only [List.length_cons] at hl
        generalize brk2 (x :: r) = m at *
        rw [cnt_skip, aft_skip, cnt_skip (m - 1) r, List.drop_append_of_le_length (by omega)]
        have := ih (r.drop (m - 1)) b ((r ++ 10 :: b).length + 1 - m) (by simp; omega) (hr.drop _)
        exact ⟨by rw [this.1]; omega, this.2⟩

theorem split_cnt (a b : List Int) (h : NoCr a) : cnt 0 (a ++ 10 :: b) = cnt 0 a + 1 + cnt 0 b := (split_law a.length a b 0 (Nat.le_refl _) h).1
theorem split_aft (a b : List Int) (d : Nat) (h : NoCr a) : aft 0 (a ++ 10 :: b) d = aft 0 b b.length := (split_law a.length a b d (Nat.le_refl _) h).2

theorem NoCr.of_last {a : List Int} {n : Nat} (hn : a.length = n) (h : n = 0 ∨ a.getD (n - 1) 0 ≠ 13) : NoCr a := by
  intro p e
  subst e
  simp at hn
  subst hn
  simp at h
end Go.Proofs.Qxb6600513a
