/-
  The plain mathematics of the tree of least depths: no Go in sight.
-/
import Derived.Below
namespace Go.Proofs.Qxb6600532a

/-- The least of l[lo], .., l[lo + c]. -/
def mn (l : List Int) (lo : Nat) : Nat → Int
  | 0 => l.getD lo 0
  | c + 1 => if l.getD (lo + c + 1) 0 < mn l lo c then l.getD (lo + c + 1) 0 else mn l lo c

theorem mn_le (l : List Int) (lo : Nat) (d : Int) : ∀ c, mn l lo c ≤ d ↔ ∃ t, t ≤ c ∧ l.getD (lo + t) 0 ≤ d
  | 0 => by
    constructor
    · intro h; exact ⟨0, Nat.le_refl _, by simpa [mn] using h⟩
    · rintro ⟨t, ht, h⟩
      obtain rfl : t = 0 := by omega
      simpa [mn] using h
  | c + 1 => by
    rw [mn]
    constructor
    · intro h
      split at h
      · exact ⟨c + 1, Nat.le_refl _, h⟩
      · obtain ⟨t, ht, h'⟩ := (mn_le l lo d c).1 h
        exact ⟨t, by omega, h'⟩
    · rintro ⟨t, ht, h⟩
      by_cases e : t = c + 1
      · subst e
        split
        · exact h
        · rename_i h2
          have : lo + (c + 1) = lo + c + 1 := by omega
          rw [this] at h
          omega
      · have := (mn_le l lo d c).2 ⟨t, by omega, h⟩
        split <;> omega

/-- How many entries the level above has. -/
def up (n : Nat) : Nat := (n + 15) / 16

/-- The level above. -/
def gm (l : List Int) : List Int := (List.range (up l.length)).map fun j => mn l (16 * j) (min (16 * j + 16) l.length - 16 * j - 1)

theorem gm_length (l : List Int) : (gm l).length = up l.length := by simp [gm]

theorem gm_getD (l : List Int) (j : Nat) (h : j < up l.length) : (gm l).getD j 0 = mn l (16 * j) (min (16 * j + 16) l.length - 16 * j - 1) := by
  simp [gm, List.getElem?_map, List.getElem?_range h]

theorem gm_reach (l : List Int) (d : Int) (j : Nat) (h : j < up l.length) : (gm l).getD j 0 ≤ d ↔ ∃ t, t < 16 ∧ 16 * j + t < l.length ∧ l.getD (16 * j + t) 0 ≤ d := by
  rw [gm_getD l j h, mn_le]
  unfold up at h
  constructor
  · rintro ⟨t, ht, h'⟩
    exact ⟨t, by omega, by omega, h'⟩
  · rintro ⟨t, ht, h1, h'⟩
    exact ⟨t, by omega, h'⟩

/-- The levels. -/
def lv (l : List Int) : Nat → List Int
  | 0 => l
  | k + 1 => gm (lv l k)

theorem lv_length (l : List Int) (k : Nat) : (lv l (k + 1)).length = up (lv l k).length := gm_length _

theorem cover (l : List Int) : ∀ k, l.length ≤ (lv l k).length * 16 ^ k
  | 0 => by simp [lv]
  | k + 1 => by
    have := cover l k
    rw [lv_length, Nat.pow_succ, Nat.mul_comm (16 ^ k) 16, ← Nat.mul_assoc]
    refine Nat.le_trans this (Nat.mul_le_mul_right _ ?_)
    unfold up; omega

/-- Entry i of level k reaches d just where one of its blocks does. -/
theorem block_reach (l : List Int) (d : Int) : ∀ k i, i < (lv l k).length → ((lv l k).getD i 0 ≤ d ↔ ∃ j, i * 16 ^ k ≤ j ∧ j < (i + 1) * 16 ^ k ∧ j < l.length ∧ l.getD j 0 ≤ d)
  | 0, i, h => by
    simp only [lv, Nat.pow_zero, Nat.mul_one] at *
    constructor
    · intro h'; exact ⟨i, Nat.le_refl _, by omega, h, h'⟩
    · rintro ⟨j, h1, h2, h3, h4⟩
      obtain rfl : j = i := by omega
      exact h4
  | k + 1, i, h => by
    rw [lv, gm_reach _ d i (by rw [← lv_length]; exact h)]
    have e1 : i * 16 ^ (k + 1) = 16 * i * 16 ^ k := by rw [Nat.pow_succ]; rw [Nat.mul_comm (16 ^ k) 16, ← Nat.mul_assoc, Nat.mul_comm i 16]
    have e2 : (i + 1) * 16 ^ (k + 1) = (16 * i + 16) * 16 ^ k := by rw [Nat.pow_succ, Nat.mul_comm (16 ^ k) 16, ← Nat.mul_assoc, Nat.mul_comm (i + 1) 16]; rfl
    rw [e1, e2]
    constructor
    · rintro ⟨t, ht, hl, hr⟩
      obtain ⟨j, h1, h2, h3, h4⟩ := (block_reach l d k (16 * i + t) hl).1 hr
      refine ⟨j, Nat.le_trans (Nat.mul_le_mul_right _ (by omega)) h1, Nat.lt_of_lt_of_le h2 (Nat.mul_le_mul_right _ (by omega)), h3, h4⟩
    · rintro ⟨j, h1, h2, h3, h4⟩
      have hp : 0 < 16 ^ k := Nat.pow_pos (by omega)
      have q1 : 16 * i ≤ j / 16 ^ k := (Nat.le_div_iff_mul_le hp).2 h1
      have q2 : j / 16 ^ k < 16 * i + 16 := (Nat.div_lt_iff_lt_mul hp).2 h2
      have q3 : j / 16 ^ k < (lv l k).length := by
        rcases Nat.lt_or_ge (j / 16 ^ k) (lv l k).length with h' | h'
        · exact h'
        · exfalso
          have := cover l k
          have h5 : (lv l k).length * 16 ^ k ≤ j := Nat.le_trans (Nat.mul_le_mul_right _ h') (Nat.div_mul_le_self _ _)
          omega
      refine ⟨j / 16 ^ k - 16 * i, by omega, by omega, ?_⟩
      rw [show 16 * i + (j / 16 ^ k - 16 * i) = j / 16 ^ k by omega]
      exact (block_reach l d k _ q3).2 ⟨j, Nat.div_mul_le_self _ _, by rw [Nat.add_mul, Nat.one_mul]; exact Nat.lt_div_mul_add hp, h3, h4⟩
/-- No block between b and the first block of entry i of level k reaches d. -/
def Clr (l : List Int) (b d : Int) (k i : Nat) : Prop := b < (i * 16 ^ k : Nat) ∧ ∀ j : Nat, b < (j : Int) → j < i * 16 ^ k → j < l.length → d < l.getD j 0

theorem Clr.start (l : List Int) (b d : Int) (i : Nat) (h : (i : Int) = b + 1) : Clr l b d 0 i := by
  refine ⟨by simp; omega, fun j h1 h2 => ?_⟩
  simp at h2
  omega

/-- Entries that do not reach are passed. -/
theorem Clr.pass {l : List Int} {b d : Int} {k i i' : Nat} (h : Clr l b d k i) (hi : i ≤ i') (hl : i' ≤ (lv l k).length ∨ i' = i) (hn : ∀ t, i ≤ t → t < i' → d < (lv l k).getD t 0) : Clr l b d k i' := by
  have hle : i * 16 ^ k ≤ i' * 16 ^ k := Nat.mul_le_mul_right _ hi
  refine ⟨by have := h.1; omega, fun j h1 h2 h3 => ?_⟩
  by_cases hj : j < i * 16 ^ k
  · exact h.2 j h1 hj h3
  · have hp : 0 < 16 ^ k := Nat.pow_pos (by omega)
    have q1 : i ≤ j / 16 ^ k := (Nat.le_div_iff_mul_le hp).2 (by omega)
    have q2 : j / 16 ^ k < i' := (Nat.div_lt_iff_lt_mul hp).2 h2
    have q3 : j / 16 ^ k < (lv l k).length := by omega
    have := hn _ q1 q2
    rcases Int.lt_or_le d (l.getD j 0) with h' | h'
    · exact h'
    · exfalso
      have := (block_reach l d k _ q3).2 ⟨j, Nat.div_mul_le_self _ _, by rw [Nat.add_mul, Nat.one_mul]; exact Nat.lt_div_mul_add hp, h3, h'⟩
      omega

/-- One level up. -/
theorem Clr.climb {l : List Int} {b d : Int} {k i : Nat} (h : Clr l b d k (16 * i)) : Clr l b d (k + 1) i := by
  have e1 : i * 16 ^ (k + 1) = 16 * i * 16 ^ k := by rw [Nat.pow_succ, Nat.mul_comm (16 ^ k) 16, ← Nat.mul_assoc, Nat.mul_comm i 16]
  unfold Clr at *
  rw [e1]; exact h

theorem Clr.down {l : List Int} {b d : Int} {k i : Nat} (h : Clr l b d (k + 1) i) : Clr l b d k (16 * i) := by
  have e1 : i * 16 ^ (k + 1) = 16 * i * 16 ^ k := by rw [Nat.pow_succ, Nat.mul_comm (16 ^ k) 16, ← Nat.mul_assoc, Nat.mul_comm i 16]
  unfold Clr at *
  rw [← e1]; exact h

/-- What the search says: the first block after b that reaches d, or -1. -/
def FR (l : List Int) (b d r : Int) : Prop := (r = -1 ∧ ∀ j : Nat, b < (j : Int) → j < l.length → d < l.getD j 0) ∨ ∃ i : Nat, r = i ∧ i < l.length ∧ b < (i : Int) ∧ l.getD i 0 ≤ d ∧ ∀ j : Nat, b < (j : Int) → j < i → d < l.getD j 0

theorem Clr.end {l : List Int} {b d : Int} {k i : Nat} (h : Clr l b d k i) (hi : (lv l k).length ≤ i) : FR l b d (-1) := by
  refine .inl ⟨rfl, fun j h1 h2 => h.2 j h1 ?_ h2⟩
  have := cover l k
  have := Nat.mul_le_mul_right (16 ^ k) hi
  omega

theorem Clr.found {l : List Int} {b d : Int} {i : Nat} (h : Clr l b d 0 i) (hi : i < l.length) (hr : l.getD i 0 ≤ d) : FR l b d i := by
  refine .inr ⟨i, rfl, hi, by simpa using h.1, hr, fun j h1 h2 => h.2 j h1 (by simpa using h2) (by omega)⟩

theorem FR.unique {l : List Int} {b d r r' : Int} (h : FR l b d r) (h' : FR l b d r') : r = r' := by
  rcases h with ⟨rfl, h⟩ | ⟨i, rfl, h1, h2, h3, h4⟩ <;> rcases h' with ⟨rfl, h'⟩ | ⟨i', rfl, h1', h2', h3', h4'⟩
  · rfl
  · have := h i' h2' h1'; omega
  · have := h' i h2 h1; omega
  · rcases Nat.lt_trichotomy i i' with e | e | e
    · have := h4' i h2 e; omega
    · rw [e]
    · have := h4 i' h2' e; omega

theorem FR.ge {l : List Int} {b d r : Int} (h : FR l b d r) : r = -1 ∨ (b < r ∧ 0 ≤ r ∧ r < l.length) := by
  rcases h with ⟨rfl, h⟩ | ⟨i, rfl, h1, h2, h3, h4⟩
  · exact .inl rfl
  · exact .inr ⟨h2, by omega, by omega⟩

/-- The same for a search in a row. -/
def Ix (l : List Int) (d r : Int) : Prop := (r = -1 ∧ ∀ j : Nat, j < l.length → d < l.getD j 0) ∨ ∃ i : Nat, r = i ∧ i < l.length ∧ l.getD i 0 ≤ d ∧ ∀ j : Nat, j < i → d < l.getD j 0

/-- An entry that reaches has one beneath it that does. -/
theorem beneath {l : List Int} {d : Int} {k i : Nat} (hi : i < (lv l (k + 1)).length) (hr : (lv l (k + 1)).getD i 0 ≤ d) : ∃ t, t < 16 ∧ 16 * i + t < (lv l k).length ∧ (lv l k).getD (16 * i + t) 0 ≤ d :=
  (gm_reach _ d i (by rw [← lv_length]; exact hi)).1 hr
end Go.Proofs.Qxb6600532a
