/-
  ZZValue, (Value).Kind, zzConcatB1, the bounds.
-/
import Derived.Test.Qxb6600532aBase
namespace Go.Proofs.Qxb6600532a
open Go.RowKit
set_option linter.unusedVariables false
set_option linter.unusedSimpArgs false

/-- The kind that the first byte tells. -/
def kindOf (x : Int) : Int := if x = 110 then 1 else if x = 116 then 2 else if x = 102 then 2 else if x = 34 then 4 else if x = 91 then 5 else if x = 123 then 6 else 3

theorem kindOf_ne (x : Int) : kindOf x ≠ 0 := by unfold kindOf; repeat' split
                                                 all_goals omega

theorem kindOf_wf (x : Int) : 1 ≤ kindOf x ∧ kindOf x ≤ 6 := by unfold kindOf; repeat' split
                                                                all_goals omega

theorem ret_int {k : IntKind} {a b : Int} (h : a = b) : Ending.returned (.int k a) = .returned (.int k b) := by rw [h]

set_option maxHeartbeats 400000 in
theorem value16 (a : Option Addr) (n c : Nat) (w : World) :
    Calls Try.prog 16 #[.slice a n c] w fun e w' => e = .returned (.agg #[.slice a n c, .pointer none]) ∧ Kept no w w' := by
  go_enter Try.func16, Try.ntmps16
  go_wp2
  exact bodyPost_ret (v := .agg #[.slice a n c, .pointer none]) (by simp [results, Try.results16, go_sem]) rfl ⟨rfl, (Kept.refl _ _).alloc _⟩

set_option maxHeartbeats 400000 in
theorem kind17_none (a : Option Addr) (c : Nat) (w : World) :
    Calls Try.prog 17 #[.agg #[.slice a 0 c, .pointer none]] w fun e w' => e = .returned (.int .u8 0) ∧ Kept no w w' := by
  go_enter Try.func17, Try.ntmps17
  go_wp2
  go_ret
  exact ⟨rfl, (Kept.refl _ _).alloc _⟩

set_option maxHeartbeats 1000000 in
theorem kind17_some (b off n c : Nat) (x : Int) (w : World) (hn : 0 < n) (hx : w.cell? ⟨b, off, none⟩ = some (.int .u8 x)) :
    Calls Try.prog 17 #[.agg #[.slice (some ⟨b, off, none⟩) n c, .pointer none]] w fun e w' => e = .returned (.int .u8 (kindOf x)) ∧ Kept no w w' := by
  have hlt : b < w.heap.size := World.block_lt_of_cell? w _ hx
  have hn0 : ((n : Int) == 0) = false := by simp; omega
  have hn1 : (0 : Int) < (n : Int) := by omega
  by_cases q1 : x = 110
  · have HK : Hid (kindOf x = 1) := by show _ = _; simp [kindOf, q1]
    have r1 : (x == 110) = true := by simpa using q1
    clear q1
    go_enter Try.func17, Try.ntmps17
    go_wp2
    go_ret
    exact ⟨ret_int HK.out.symm, (Kept.refl _ _).alloc _⟩
  have r1 : (x == 110) = false := by simpa using q1
  by_cases q2 : x = 116
  · have HK : Hid (kindOf x = 2) := by show _ = _; simp [kindOf, q1, q2]
    have r2 : (x == 116) = true := by simpa using q2
    clear q1 q2
    go_enter Try.func17, Try.ntmps17
    go_wp2
    go_ret
    exact ⟨ret_int HK.out.symm, (Kept.refl _ _).alloc _⟩
  have r2 : (x == 116) = false := by simpa using q2
  by_cases q3 : x = 102
  · have HK : Hid (kindOf x = 2) := by show _ = _; simp [kindOf, q1, q2, q3]
    have r3 : (x == 102) = true := by simpa using q3
    clear q1 q2 q3
    go_enter Try.func17, Try.ntmps17
    go_wp2
    go_ret
    exact ⟨ret_int HK.out.symm, (Kept.refl _ _).alloc _⟩
  have r3 : (x == 102) = false := by simpa using q3
  by_cases q4 : x = 34
  · have HK : Hid (kindOf x = 4) := by show _ = _; simp [kindOf, q1, q2, q3, q4]
    have r4 : (x == 34) = true := by simpa using q4
    clear q1 q2 q3 q4
    go_enter Try.func17, Try.ntmps17
    go_wp2
    go_ret
    exact ⟨ret_int HK.out.symm, (Kept.refl _ _).alloc _⟩
  have r4 : (x == 34) = false := by simpa using q4
  by_cases q5 : x = 91
  · have HK : Hid (kindOf x = 5) := by show _ = _; simp [kindOf, q1, q2, q3, q4, q5]
    have r5 : (x == 91) = true := by simpa using q5
    clear q1 q2 q3 q4 q5
    go_enter Try.func17, Try.ntmps17
    go_wp2
    go_ret
    exact ⟨ret_int HK.out.symm, (Kept.refl _ _).alloc _⟩
  have r5 : (x == 91) = false := by simpa using q5
  by_cases q6 : x = 123
  · have HK : Hid (kindOf x = 6) := by show _ = _; simp [kindOf, q1, q2, q3, q4, q5, q6]
    have r6 : (x == 123) = true := by simpa using q6
    clear q1 q2 q3 q4 q5 q6
    go_enter Try.func17, Try.ntmps17
    go_wp2
    go_ret
    exact ⟨ret_int HK.out.symm, (Kept.refl _ _).alloc _⟩
  have r6 : (x == 123) = false := by simpa using q6
  have HK : Hid (kindOf x = 3) := by show _ = _; simp [kindOf, q1, q2, q3, q4, q5, q6]
  clear q1 q2 q3 q4 q5 q6
  go_enter Try.func17, Try.ntmps17
  go_wp2
  go_ret
  exact ⟨ret_int HK.out.symm, (Kept.refl _ _).alloc _⟩

set_option maxHeartbeats 400000 in
theorem bytes14_yes (a0 a1 : Option Addr) (n0 c0 n1 c1 : Nat) (w : World) (h : n0 + n1 ≤ 1048576) :
    Calls Try.prog 14 #[.slice a0 n0 c0, .slice a1 n1 c1] w fun e w' => e = .returned (.bool true) ∧ w' = w := by
  have h0 : ¬ (1048576 : Int) < (n0 : Int) := by omega
  have h1 : ¬ (1048576 : Int) < (n1 : Int) := by omega
  have h2 : ¬ (1048576 : Int) < (n0 : Int) + (n1 : Int) := by omega
  go_enter Try.func14, Try.ntmps14
  go_wp2
  go_ret
  exact ⟨rfl, rfl⟩

set_option maxHeartbeats 400000 in
theorem bytes14_no (a0 a1 : Option Addr) (n0 c0 n1 c1 : Nat) (w : World) (h : ¬ n0 + n1 ≤ 1048576) :
    Calls Try.prog 14 #[.slice a0 n0 c0, .slice a1 n1 c1] w fun e w' => e = .returned (.bool false) ∧ w' = w := by
  by_cases h0 : n0 ≤ 1048576
  · by_cases h1 : n1 ≤ 1048576
    · have h2 : (1048576 : Int) < (n0 : Int) + (n1 : Int) := by omega
      go_enter Try.func14, Try.ntmps14
      go_wp2
      go_ret
      exact ⟨rfl, rfl⟩
    · go_enter Try.func14, Try.ntmps14
      go_wp2
      go_ret
      exact ⟨rfl, rfl⟩
  · go_enter Try.func14, Try.ntmps14
    go_wp2
    go_ret
    exact ⟨rfl, rfl⟩
end Go.Proofs.Qxb6600532a
