/-
  policy.ZZLineBreaks, of every slice.
-/
import Derived.Test.Qxb6600513aLines
namespace Go.Proofs.Qxb6600513a
open Go.RowKit
set_option linter.unusedVariables false

theorem wf_u8 {x : Int} (h : (Lit.int .u8 x).wf = true) : 0 ≤ x ∧ x ≤ 255 := by
  simpa using bounds_u8 h

set_option maxHeartbeats 400000 in
theorem lineBreaks37_none (a : Option Addr) (c : Nat) (w : World) :
    Calls Try.prog 37 #[.slice a 0 c] w fun e w' => e = .returned (.tuple #[.int .i64 0, .int .i64 0]) ∧ w' = w := by
  go_enter Try.func37, Try.ntmps37
  go_wp2
  go_loopw [2, 3, 4] (fun br af iv wr => br = .int .i64 0 ∧ af = .int .i64 0 ∧ iv = .int .i64 0 ∧ wr = w) (fun _ _ _ _ => 0)
  case atStart => exact ⟨rfl, rfl, rfl, rfl⟩
  case round =>
    obtain ⟨rfl, rfl, rfl, rfl⟩ := hrel
    go_wp2
    go_ret2
    exact ⟨rfl, rfl⟩

theorem lineBreaks (a : Option Addr) (n c : Nat) (l : List Int) (w : World) (h : Sl .u8 w a n c l) (hn : n ≤ 1048577) :
    Calls Try.prog 37 #[.slice a n c] w fun e w' => e = .returned (.tuple #[.int .i64 (cnt 0 l), .int .i64 (aft 0 l n)]) ∧ Below w.heap.size w w' := by
  rcases Nat.eq_zero_or_pos n with h0 | h0
  · subst h0
    obtain rfl : l = [] := List.eq_nil_of_length_eq_zero h.len
    refine (lineBreaks37_none a c w).mono ?_
    rintro e w' ⟨rfl, rfl⟩
    exact ⟨by simp [cnt, aft], Below.refl _ _⟩
  · obtain ⟨b, off, rfl, hc⟩ := h.cells h0
    exact lineBreaks37 b off n c l w h.len hn h.le h.max hc fun x hx => wf_u8 (h.wf x hx)

set_option maxHeartbeats 400000 in
theorem lineBreaks9 (a : Option Addr) (n c : Nat) (l : List Int) (w : World) (h : Sl .u8 w a n c l) (hn : n ≤ 1048577) :
    Calls Try.prog 9 #[.slice a n c] w fun e w' => e = .returned (.tuple #[.int .i64 (cnt 0 l), .int .i64 (aft 0 l n)]) ∧ Below w.heap.size w w' := by
  have H : Hid (Calls Try.prog 37 #[.slice a n c] w fun e w' => e = .returned (.tuple #[.int .i64 (cnt 0 l), .int .i64 (aft 0 l n)]) ∧ Below w.heap.size w w') := lineBreaks a n c l w h hn
  generalize cnt 0 l = x at *
  generalize aft 0 l n = y at *
  clear h
  go_enter Try.func9, Try.ntmps9
  go_wp2_with fail
  refine H.out.mono ?_
  rintro e w1 ⟨rfl, hb1⟩
  go_wp2
  go_ret2
  exact ⟨rfl, hb1⟩
end Go.Proofs.Qxb6600513a
