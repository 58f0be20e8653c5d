/-
  The plain mathematics of line breaks: no Go in sight.
-/
import Derived.Lib.Bytes
namespace Go.Proofs.Qxb6600513a

/-- Does xs begin with ys? -/
def hp (xs ys : List Int) : Bool := ys.isPrefixOf xs

/-- The length of the line break at the head, or 0. -/
def brk (l : List Int) : Nat :=
  if hp l [10] = true then 1 else if hp l [13] = true then 1 else if hp l [194, 133] = true then 2
  else if hp l [226, 128, 168] = true then 3 else if hp l [226, 128, 169] = true then 3 else 0

/-- The same, a carriage return and a line feed behind it taken as one. -/
def brk2 (l : List Int) : Nat := if hp l [13, 10] = true then 2 else brk l

theorem brk_le (l : List Int) : brk l ≤ 3 := by
  unfold brk; repeat' split
  all_goals omega

theorem hp_len {l m : List Int} (h : hp l m = true) : m.length ≤ l.length := by
  have := List.isPrefixOf_iff_prefix.1 h
  exact this.length_le

theorem brk_len (l : List Int) : brk l ≤ l.length := by
  unfold brk
  repeat' split
  all_goals first | omega | (rename_i h; have := hp_len h; simp at this; omega)

theorem brk2_len (l : List Int) : brk2 l ≤ l.length := by
  unfold brk2
  split
  · rename_i h; have := hp_len h; simp at this; omega
  · exact brk_len l

theorem brk2_le (l : List Int) : brk2 l ≤ 3 := by
  unfold brk2
  split
  · omega
  · exact brk_le l

/-- How many breaks: the first s bytes are passed over. -/
def cnt : Nat → List Int → Nat
  | _, [] => 0
  | s + 1, _ :: r => cnt s r
  | 0, x :: r => if brk2 (x :: r) = 0 then cnt 0 r else 1 + cnt (brk2 (x :: r) - 1) r

/-- How many bytes follow the last of them; d where there is none. -/
def aft : Nat → List Int → Nat → Nat
  | _, [], d => d
  | s + 1, _ :: r, d => aft s r d
  | 0, x :: r, d => if brk2 (x :: r) = 0 then aft 0 r d else aft (brk2 (x :: r) - 1) r (r.length + 1 - brk2 (x :: r))

theorem cnt_skip (s : Nat) (l : List Int) : cnt s l = cnt 0 (l.drop s) := by
  induction l generalizing s with
  | nil => cases s <;> simp [cnt]
  | cons x r ih => cases s with
    | zero => simp
    | succ s => rw [cnt, List.drop_succ_cons]; exact ih s

theorem aft_skip (s : Nat) (l : List Int) (d : Nat) : aft s l d = aft 0 (l.drop s) d := by
  induction l generalizing s with
  | nil => cases s <;> simp [aft]
  | cons x r ih => cases s with
    | zero => simp
    | succ s => rw [aft, List.drop_succ_cons]; exact ih s

/-- One step, at place i. -/
theorem cnt_none (l : List Int) (i : Nat) (hi : i < l.length) (h : brk2 (l.drop i) = 0) : cnt 0 (l.drop i) = cnt 0 (l.drop (i + 1)) := by
  rw [List.drop_eq_getElem_cons hi] at h ⊢
  rw [cnt, if_pos h]

theorem aft_none (l : List Int) (i d : Nat) (hi : i < l.length) (h : brk2 (l.drop i) = 0) : aft 0 (l.drop i) d = aft 0 (l.drop (i + 1)) d := by
  rw [List.drop_eq_getElem_cons hi] at h ⊢
  rw [aft, if_pos h]

theorem cnt_some (l : List Int) (i w : Nat) (hi : i < l.length) (h : brk2 (l.drop i) = w) (hw : 0 < w) : cnt 0 (l.drop i) = 1 + cnt 0 (l.drop (i + w)) := by
  rw [List.drop_eq_getElem_cons hi] at h ⊢
  rw [cnt, if_neg (by omega), cnt_skip, h, List.drop_drop]
  rw [show i + 1 + (w - 1) = i + w by omega]

theorem aft_some (l : List Int) (i w d : Nat) (hi : i < l.length) (h : brk2 (l.drop i) = w) (hw : 0 < w) : aft 0 (l.drop i) d = aft 0 (l.drop (i + w)) (l.length - i - w) := by
  rw [List.drop_eq_getElem_cons hi] at h ⊢
  rw [aft, if_neg (by omega), aft_skip, h, List.drop_drop]
  rw [show i + 1 + (w - 1) = i + w by omega, show (l.drop (i + 1)).length + 1 - w = l.length - i - w by simp; omega]

/-! ### What the bytes say of the break at the head -/
theorem hp_cons (x y : Int) (r m : List Int) : hp (x :: r) (y :: m) = (y == x && hp r m) := by simp [hp, List.isPrefixOf]
theorem hp_nil (r : List Int) : hp r [] = true := by simp [hp]
theorem hp_none (y : Int) (m : List Int) : hp [] (y :: m) = false := by simp [hp]

/-- Only these four bytes begin a break. -/
theorem brk_other (x : Int) (r : List Int) (h1 : x ≠ 10) (h2 : x ≠ 13) (h3 : x ≠ 194) (h4 : x ≠ 226) : brk (x :: r) = 0 ∧ brk2 (x :: r) = 0 := by
  have e1 : (10 == x) = false := beq_eq_false_iff_ne.2 (Ne.symm h1)
  have e2 : (13 == x) = false := beq_eq_false_iff_ne.2 (Ne.symm h2)
  have e3 : (194 == x) = false := beq_eq_false_iff_ne.2 (Ne.symm h3)
  have e4 : (226 == x) = false := beq_eq_false_iff_ne.2 (Ne.symm h4)
  simp [brk2, brk, hp_cons, e1, e2, e3, e4]

end Go.Proofs.Qxb6600513a
