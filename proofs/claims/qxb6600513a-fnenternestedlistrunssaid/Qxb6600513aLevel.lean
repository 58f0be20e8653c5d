/-
  (*level).ends, (*writtenScan).overfullRun
-/
import Derived.Test.Qxb6600513aScan
import Derived.Deep.QuietTactic
import Derived.BigQuiet
import Derived.RegionTactic
import Derived.ChangeAlike
namespace Go.Proofs.Qxb6600513a
open Go.RowKit
set_option linter.unusedVariables false
set_option linter.unusedSimpArgs false

/-- Does a line of this indentation, an item or not, lie outside the value of a key at ind? -/
def endsP (indent ind : Int) (item : Bool) : Bool := if indent < ind then true else if indent = ind then !item else false

theorem ret_b {a b : Bool} (h : a = b) : Ending.returned (.bool a) = .returned (.bool b) := by rw [h]

set_option maxHeartbeats 400000 in
theorem ends42_nokey (gl off : Nat) (ind indent : Int) (item : Bool) (w : World) (h0 : w.cell? ⟨gl, off, none⟩ = some (.int .i64 ind)) (h1 : w.cell? ⟨gl, off + 1, none⟩ = some (.bool false)) :
    Calls Try.prog 42 #[.pointer (some ⟨gl, off, none⟩), .int .i64 indent, .bool item] w fun e w' => e = .returned (.bool (decide (indent ≤ ind))) ∧ w' = w := by
  go_enter Try.func42, Try.ntmps42
  go_wp2
  go_ret
  exact ⟨rfl, rfl⟩

set_option maxHeartbeats 400000 in
theorem ends42_nolist (gl off : Nat) (ind indent : Int) (item : Bool) (w : World) (h0 : w.cell? ⟨gl, off, none⟩ = some (.int .i64 ind)) (h1 : w.cell? ⟨gl, off + 1, none⟩ = some (.bool true)) (h3 : w.cell? ⟨gl, off + 3, none⟩ = some (.pointer none)) :
    Calls Try.prog 42 #[.pointer (some ⟨gl, off, none⟩), .int .i64 indent, .bool item] w fun e w' => e = .returned (.bool (endsP indent ind item)) ∧ w' = w := by
  by_cases hlt : indent < ind
  · have HE : Hid (endsP indent ind item = true) := by show _ = _; simp [endsP, hlt]
    go_enter Try.func42, Try.ntmps42
    go_wp2
    go_ret
    exact ⟨ret_b HE.out.symm, rfl⟩
  · by_cases heq : indent = ind
    · have HE : Hid (endsP indent ind item = !item) := by show _ = _; simp [endsP, hlt, heq]
      subst heq
      go_enter Try.func42, Try.ntmps42
      go_wp2
      go_ret
      exact ⟨ret_b HE.out.symm, rfl⟩
    · have HE : Hid (endsP indent ind item = false) := by show _ = _; simp [endsP, hlt, heq]
      have hb : (indent == ind) = false := by simpa using heq
      clear heq
      go_enter Try.func42, Try.ntmps42
      go_wp2
      go_ret
      exact ⟨ret_b HE.out.symm, rfl⟩

set_option maxHeartbeats 400000 in
theorem ends42_list (gl off G : Nat) (ind indent : Int) (item : Bool) (w : World) (h1 : w.cell? ⟨gl, off + 1, none⟩ = some (.bool true)) (h3 : w.cell? ⟨gl, off + 3, none⟩ = some (.pointer (some ⟨G, 0, none⟩))) (hG : w.cell? ⟨G, 0, none⟩ = some (.int .i64 ind)) :
    Calls Try.prog 42 #[.pointer (some ⟨gl, off, none⟩), .int .i64 indent, .bool item] w fun e w' => e = .returned (.bool (endsP indent ind item)) ∧ w' = w := by
  by_cases hlt : indent < ind
  · have HE : Hid (endsP indent ind item = true) := by show _ = _; simp [endsP, hlt]
    go_enter Try.func42, Try.ntmps42
    go_wp2
    go_ret
    exact ⟨ret_b HE.out.symm, rfl⟩
  · by_cases heq : indent = ind
    · have HE : Hid (endsP indent ind item = !item) := by show _ = _; simp [endsP, hlt, heq]
      subst heq
      go_enter Try.func42, Try.ntmps42
      go_wp2
      go_ret
      exact ⟨ret_b HE.out.symm, rfl⟩
    · have HE : Hid (endsP indent ind item = false) := by show _ = _; simp [endsP, hlt, heq]
      have hb : (indent == ind) = false := by simpa using heq
      clear heq
      go_enter Try.func42, Try.ntmps42
      go_wp2
      go_ret
      exact ⟨ret_b HE.out.symm, rfl⟩

set_option maxHeartbeats 400000 in
theorem over44 (S G : Nat) (most : Int) (w : World) (h2 : w.cell? ⟨S, 2, none⟩ = some (.int .i64 most)) (hG : w.cell? ⟨G, 5, none⟩ = some (.int .i64 0)) :
    Calls Try.prog 44 #[.pointer (some ⟨S, 0, none⟩), .pointer (some ⟨G, 0, none⟩)] w fun e w' => e = .returned (.int .i64 (-1)) ∧ Kept no w w' := by
  go_enter Try.func44, Try.ntmps44
  go_wp2
  go_region
  all_goals go_wp2
  all_goals
    go_ret
    exact ⟨rfl, (Kept.refl _ _).drew⟩
end Go.Proofs.Qxb6600513a
