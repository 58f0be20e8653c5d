/-
  The plain law: the breaks are those that are found by their last bytes.
-/
import Derived.Test.Qxb6600513aPlain
namespace Go.Proofs.Qxb6600513a

/-- Does a break end at x, the two bytes ahead of it p2, p1 (-1: none), the rest r? -/
def endsAt (p2 p1 x : Int) (r : List Int) : Bool :=
  x == 10 || (x == 13 && !hp r [10]) || (x == 133 && p1 == 194) || ((x == 168 || x == 169) && p2 == 226 && p1 == 128)

def ec : Int → Int → List Int → Nat
  | _, _, [] => 0
  | p2, p1, x :: r => (if endsAt p2 p1 x r = true then 1 else 0) + ec p1 x r

def la : Int → Int → List Int → Nat → Nat
  | _, _, [], d => d
  | p2, p1, x :: r, d => la p1 x r (if endsAt p2 p1 x r = true then r.length else d)

/-- No break has been begun ahead of l that ends in it. -/
def Clean (p2 p1 : Int) (l : List Int) : Prop :=
  ¬ (p1 = 194 ∧ hp l [133] = true) ∧ ¬ (p2 = 226 ∧ p1 = 128 ∧ (hp l [168] = true ∨ hp l [169] = true)) ∧ ¬ (p1 = 226 ∧ (hp l [128, 168] = true ∨ hp l [128, 169] = true))

theorem Clean.start (l : List Int) : Clean (-1) (-1) l := by simp [Clean]

theorem clean_after {p2 p1 : Int} {l : List Int} (h1 : p1 ≠ 194) (h2 : p1 ≠ 226) (h3 : p1 ≠ 128) : Clean p2 p1 l := by simp [Clean, h1, h2, h3]

/-- What a list begins with. -/
theorem hp_iff1 (r : List Int) (a : Int) : hp r [a] = true ↔ ∃ t, r = a :: t := by
  cases r with
  | nil => simp [hp_none]
  | cons x t => simp [hp_cons, hp_nil]; omega

theorem hp_iff2 (r : List Int) (a b : Int) : hp r [a, b] = true ↔ ∃ t, r = a :: b :: t := by
  rcases r with _ | ⟨x, _ | ⟨y, t⟩⟩
  · simp [hp_none]
  · simp [hp_cons, hp_none]
  · simp [hp_cons, hp_nil]; omega

theorem hp_iff3 (r : List Int) (a b c : Int) : hp r [a, b, c] = true ↔ ∃ t, r = a :: b :: c :: t := by
  rcases r with _ | ⟨x, _ | ⟨y, _ | ⟨z, t⟩⟩⟩
  · simp [hp_none]
  · simp [hp_cons, hp_none]
  · simp [hp_cons, hp_none]
  · simp [hp_cons, hp_nil]; omega

/-- The ways in which a text can begin. -/
theorem brk2_cases (l : List Int) :
    (∃ t, l = 13 :: 10 :: t ∧ brk2 l = 2) ∨ (∃ t, l = 10 :: t ∧ brk2 l = 1) ∨ (∃ t, l = 13 :: t ∧ hp t [10] = false ∧ brk2 l = 1) ∨ (∃ t, l = 194 :: 133 :: t ∧ brk2 l = 2) ∨
    (∃ t, l = 226 :: 128 :: 168 :: t ∧ brk2 l = 3) ∨ (∃ t, l = 226 :: 128 :: 169 :: t ∧ brk2 l = 3) ∨
    (brk2 l = 0 ∧ hp l [10] = false ∧ hp l [13] = false ∧ hp l [194, 133] = false ∧ hp l [226, 128, 168] = false ∧ hp l [226, 128, 169] = false) := by
  by_cases h0 : hp l [13, 10] = true
  · obtain ⟨t, rfl⟩ := (hp_iff2 _ _ _).1 h0
    exact .inl ⟨t, rfl, by simp [brk2, h0]⟩
  by_cases h1 : hp l [10] = true
  · obtain ⟨t, rfl⟩ := (hp_iff1 _ _).1 h1
    exact .inr (.inl ⟨t, rfl, by simp [brk2, h0, brk, h1]⟩)
  by_cases h2 : hp l [13] = true
  · obtain ⟨t, rfl⟩ := (hp_iff1 _ _).1 h2
    refine .inr (.inr (.inl ⟨t, rfl, ?_, by simp [brk2, h0, brk, h2]⟩))
    simpa [hp_cons] using h0
  by_cases h3 : hp l [194, 133] = true
  · obtain ⟨t, rfl⟩ := (hp_iff2 _ _ _).1 h3
    exact .inr (.inr (.inr (.inl ⟨t, rfl, by simp [brk2, h0, brk, h1, h2, h3]⟩)))
  by_cases h4 : hp l [226, 128, 168] = true
  · obtain ⟨t, rfl⟩ := (hp_iff3 _ _ _ _).1 h4
    exact .inr (.inr (.inr (.inr (.inl ⟨t, rfl, by simp [brk2, h0, brk, h1, h2, h3, h4]⟩))))
  by_cases h5 : hp l [226, 128, 169] = true
  · obtain ⟨t, rfl⟩ := (hp_iff3 _ _ _ _).1 h5
    exact .inr (.inr (.inr (.inr (.inr (.inl ⟨t, rfl, by simp [brk2, h0, brk, h1, h2, h3, h4, h5]⟩)))))
  · exact .inr (.inr (.inr (.inr (.inr (.inr ⟨by simp [brk2, h0, brk, h1, h2, h3, h4, h5], by simpa using h1, by simpa using h2, by simpa using h3, by simpa using h4, by simpa using h5⟩)))))

theorem closed_law (n : Nat) : ∀ (l : List Int) (p2 p1 : Int) (d : Nat), l.length ≤ n → Clean p2 p1 l → cnt 0 l = ec p2 p1 l ∧ aft 0 l d = la p2 p1 l d := by
  induction n with
  | zero =>
    intro l p2 p1 d hn _
    obtain rfl : l = [] := List.eq_nil_of_length_eq_zero (by omega)
    simp [cnt, aft, ec, la]
  | succ n ih =>
    intro l p2 p1 d hn hc
    rcases brk2_cases l with ⟨t, rfl, hb⟩ | ⟨t, rfl, hb⟩ | ⟨t, rfl, ht, hb⟩ | ⟨t, rfl, hb⟩ | ⟨t, rfl, hb⟩ | ⟨t, rfl, hb⟩ | ⟨hb, h1, h2, h3, h4, h5⟩
    · have e1 : endsAt p2 p1 13 (10 :: t) = false := by simp [endsAt, hp_cons, hp_nil]
      have e2 : endsAt p1 13 10 t = true := by simp [endsAt]
      have := ih t 13 10 t.length (by simp at hn; omega) (clean_after (by omega) (by omega) (by omega))
      rw [cnt, aft, hb, ec, ec, la, la, e1, e2]
      simp only [Nat.add_one_sub_one, cnt, aft]
      simpa using this
    · have e1 : endsAt p2 p1 10 t = true := by simp [endsAt]
      have := ih t p1 10 t.length (by simp at hn; omega) (clean_after (by omega) (by omega) (by omega))
      rw [cnt, aft, hb, ec, la, e1]
      simpa using this
    · have e1 : endsAt p2 p1 13 t = true := by simp [endsAt, ht]
      have := ih t p1 13 t.length (by simp at hn; omega) (clean_after (by omega) (by omega) (by omega))
      rw [cnt, aft, hb, ec, la, e1]
      simpa using this
    · have e1 : endsAt p2 p1 194 (133 :: t) = false := by simp [endsAt]
      have e2 : endsAt p1 194 133 t = true := by simp [endsAt]
      have := ih t 194 133 t.length (by simp at hn; omega) (clean_after (by omega) (by omega) (by omega))
      rw [cnt, aft, hb, ec, ec, la, la, e1, e2]
      simp only [Nat.add_one_sub_one, cnt, aft]
      simpa using this
    · have e1 : endsAt p2 p1 226 (128 :: 168 :: t) = false := by simp [endsAt]
      have e2 : endsAt p1 226 128 (168 :: t) = false := by simp [endsAt]
      have e3 : endsAt 226 128 168 t = true := by simp [endsAt]
      have := ih t 128 168 t.length (by simp at hn; omega) (clean_after (by omega) (by omega) (by omega))
      rw [cnt, aft, hb, ec, ec, ec, la, la, la, e1, e2, e3]
      simp only [cnt, aft]
      simpa using this
    · have e1 : endsAt p2 p1 226 (128 :: 169 :: t) = false := by simp [endsAt]
      have e2 : endsAt p1 226 128 (169 :: t) = false := by simp [endsAt]
      have e3 : endsAt 226 128 169 t = true := by simp [endsAt]
      have := ih t 128 169 t.length (by simp at hn; omega) (clean_after (by omega) (by omega) (by omega))
      rw [cnt, aft, hb, ec, ec, ec, la, la, la, e1, e2, e3]
      simp only [cnt, aft]
      simpa using this
    · cases l with
      | nil => simp [cnt, aft, ec, la]
      | cons x r =>
        obtain ⟨c1, c2, c3⟩ := hc
        simp only [hp_cons, hp_nil, Bool.and_true, Bool.and_eq_true, beq_eq_false_iff_ne, beq_iff_eq, Bool.and_eq_false_iff] at *
        have e1 : endsAt p2 p1 x r = false := by
          simp only [endsAt, Bool.or_eq_false_iff, Bool.and_eq_false_iff, beq_eq_false_iff_ne, Bool.not_eq_false']
          omega
        have hcl : Clean p1 x r := by
          refine ⟨fun h => ?_, fun h => ?_, fun h => ?_⟩
          · rcases h3 with h3 | h3
            · exact h3 h.1.symm
            · rw [h.2] at h3; cases h3
          · obtain ⟨q1, q2, q3⟩ := h
            exact c3 ⟨q1, q3.elim (fun q => .inl ⟨q2.symm, q⟩) (fun q => .inr ⟨q2.symm, q⟩)⟩
          · obtain ⟨q1, q2 | q2⟩ := h
            · rcases h4 with h4 | h4
              · exact h4 q1.symm
              · rw [hp_iff2] at q2; obtain ⟨t, rfl⟩ := q2; simp [hp_cons, hp_nil] at h4
            · rcases h5 with h5 | h5
              · exact h5 q1.symm
              · rw [hp_iff2] at q2; obtain ⟨t, rfl⟩ := q2; simp [hp_cons, hp_nil] at h5
        have := ih r p1 x d (by simp at hn; omega) hcl
        rw [cnt, aft, hb, ec, la, e1]
        simpa using this

/-! ### The same, place by place -/
def p1At (l : List Int) (j : Nat) : Int := if 1 ≤ j then l.getD (j - 1) 0 else -1
def p2At (l : List Int) (j : Nat) : Int := if 2 ≤ j then l.getD (j - 2) 0 else -1
def endsB (l : List Int) (j : Nat) : Bool := endsAt (p2At l j) (p1At l j) (l.getD j 0) (l.drop (j + 1))

theorem p2_next (l : List Int) (j : Nat) : p2At l (j + 1) = p1At l j := by
  simp only [p2At, p1At]
  by_cases h : 1 ≤ j
  · rw [if_pos (by omega), if_pos h]; congr 1
  · rw [if_neg (by omega), if_neg h]
theorem p1_next (l : List Int) (j : Nat) : p1At l (j + 1) = l.getD j 0 := by simp [p1At]

theorem ec_step (l : List Int) (j : Nat) (hj : j < l.length) : ec (p2At l j) (p1At l j) (l.drop j) = (if endsB l j = true then 1 else 0) + ec (p2At l (j + 1)) (p1At l (j + 1)) (l.drop (j + 1)) := by
  have e : l.drop j = l.getD j 0 :: l.drop (j + 1) := by rw [List.drop_eq_getElem_cons hj]; simp [List.getElem?_eq_getElem hj]
  rw [e, ec, p2_next, p1_next]; rfl

theorem la_step (l : List Int) (j d : Nat) (hj : j < l.length) : la (p2At l j) (p1At l j) (l.drop j) d = la (p2At l (j + 1)) (p1At l (j + 1)) (l.drop (j + 1)) (if endsB l j = true then l.length - (j + 1) else d) := by
  have e : l.drop j = l.getD j 0 :: l.drop (j + 1) := by rw [List.drop_eq_getElem_cons hj]; simp [List.getElem?_eq_getElem hj]
  rw [e, la, p2_next, p1_next, List.length_drop]; rfl

theorem la_none (l : List Int) (m : Nat) : ∀ (j d : Nat), l.length - j = m → (∀ i, j ≤ i → i < l.length → endsB l i = false) → la (p2At l j) (p1At l j) (l.drop j) d = d := by
  induction m with
  | zero =>
    intro j d hm _
    rw [List.drop_eq_nil_of_le (by omega), la]
  | succ m ih =>
    intro j d hm h
    rw [la_step l j d (by omega), h j (Nat.le_refl _) (by omega)]
    simpa using ih (j + 1) d (by omega) fun i hi hl => h i (by omega) hl

theorem la_from (l : List Int) (j : Nat) : ∀ d, j ≤ l.length → ∃ d', la (p2At l 0) (p1At l 0) l d = la (p2At l j) (p1At l j) (l.drop j) d' := by
  induction j with
  | zero => intro d _; exact ⟨d, by simp⟩
  | succ j ih =>
    intro d hj
    obtain ⟨d', h⟩ := ih d (by omega)
    exact ⟨_, by rw [h, la_step l j d' (by omega)]⟩

theorem closed_cnt (l : List Int) : cnt 0 l = ec (p2At l 0) (p1At l 0) l := (closed_law l.length l (-1) (-1) 0 (Nat.le_refl _) (Clean.start l)).1
theorem closed_aft (l : List Int) (d : Nat) : aft 0 l d = la (p2At l 0) (p1At l 0) l d := (closed_law l.length l (-1) (-1) d (Nat.le_refl _) (Clean.start l)).2

/-- The last break ends at j. -/
theorem aft_last (l : List Int) (j d : Nat) (hj : j < l.length) (he : endsB l j = true) (h : ∀ i, j < i → i < l.length → endsB l i = false) : aft 0 l d = l.length - (j + 1) := by
  obtain ⟨d', e⟩ := la_from l j d (by omega)
  rw [closed_aft, e, la_step l j d' hj, he, if_pos rfl]
  exact la_none l _ (j + 1) _ rfl fun i hi hl => h i (by omega) hl

theorem aft_never (l : List Int) (d : Nat) (h : ∀ i, i < l.length → endsB l i = false) : aft 0 l d = d := by
  rw [closed_aft]
  have := la_none l _ 0 d rfl fun i _ hl => h i hl
  simpa using this
end Go.Proofs.Qxb6600513a
