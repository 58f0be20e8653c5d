/-
  The small readers of a scan.
-/
import Derived.Test.Qxb6600513aEnterC
namespace Go.Proofs.Qxb6600513a
open Go.RowKit
set_option linter.unusedVariables false
set_option linter.unusedSimpArgs false

set_option maxHeartbeats 400000 in
theorem count19 (S n cp : Nat) (a : Option Addr) (w : World) (c3 : w.cell? ⟨S, 3, none⟩ = some (.slice a n cp)) :
    Calls Try.prog 19 #[.pointer (some ⟨S, 0, none⟩)] w fun e w' => e = .returned (.int .i64 n) ∧ w' = w := by
  go_enter Try.func19, Try.ntmps19
  go_wp2
  go_ret
  exact ⟨rfl, rfl⟩

set_option maxHeartbeats 400000 in
theorem hasYes20_0 (S gl n cp G : Nat) (w : World) (c3 : w.cell? ⟨S, 3, none⟩ = some (.slice (some ⟨gl, 0, none⟩) n cp)) (hn : (0 : Int) < (n : Int)) (l : w.cell? ⟨gl, 3, none⟩ = some (.pointer (some ⟨G, 0, none⟩))) :
    Calls Try.prog 20 #[.pointer (some ⟨S, 0, none⟩), .int .i64 0] w fun e w' => e = .returned (.bool true) ∧ w' = w := by
  go_enter Try.func20, Try.ntmps20
  go_wp2
  go_ret
  exact ⟨rfl, rfl⟩

set_option maxHeartbeats 400000 in
theorem hasNo20_0 (S gl n cp : Nat) (w : World) (c3 : w.cell? ⟨S, 3, none⟩ = some (.slice (some ⟨gl, 0, none⟩) n cp)) (hn : (0 : Int) < (n : Int)) (l : w.cell? ⟨gl, 3, none⟩ = some (.pointer none)) :
    Calls Try.prog 20 #[.pointer (some ⟨S, 0, none⟩), .int .i64 0] w fun e w' => e = .returned (.bool false) ∧ w' = w := by
  go_enter Try.func20, Try.ntmps20
  go_wp2
  go_ret
  exact ⟨rfl, rfl⟩

set_option maxHeartbeats 400000 in
theorem key21_0 (S gl n cp : Nat) (b : Bool) (w : World) (c3 : w.cell? ⟨S, 3, none⟩ = some (.slice (some ⟨gl, 0, none⟩) n cp)) (hn : (0 : Int) < (n : Int)) (l : w.cell? ⟨gl, 1, none⟩ = some (.bool b)) :
    Calls Try.prog 21 #[.pointer (some ⟨S, 0, none⟩), .int .i64 0] w fun e w' => e = .returned (.bool b) ∧ w' = w := by
  go_enter Try.func21, Try.ntmps21
  go_wp2
  go_ret
  exact ⟨rfl, rfl⟩

set_option maxHeartbeats 400000 in
theorem indent22_0 (S gl n cp : Nat) (x : Int) (w : World) (c3 : w.cell? ⟨S, 3, none⟩ = some (.slice (some ⟨gl, 0, none⟩) n cp)) (hn : (0 : Int) < (n : Int)) (l : w.cell? ⟨gl, 0, none⟩ = some (.int .i64 x)) :
    Calls Try.prog 22 #[.pointer (some ⟨S, 0, none⟩), .int .i64 0] w fun e w' => e = .returned (.int .i64 x) ∧ w' = w := by
  go_enter Try.func22, Try.ntmps22
  go_wp2
  go_ret
  exact ⟨rfl, rfl⟩

set_option maxHeartbeats 400000 in
theorem lindent23_0 (S gl n cp G : Nat) (x : Int) (w : World) (c3 : w.cell? ⟨S, 3, none⟩ = some (.slice (some ⟨gl, 0, none⟩) n cp)) (hn : (0 : Int) < (n : Int)) (l : w.cell? ⟨gl, 3, none⟩ = some (.pointer (some ⟨G, 0, none⟩))) (g : w.cell? ⟨G, 0, none⟩ = some (.int .i64 x)) :
    Calls Try.prog 23 #[.pointer (some ⟨S, 0, none⟩), .int .i64 0] w fun e w' => e = .returned (.int .i64 x) ∧ w' = w := by
  go_enter Try.func23, Try.ntmps23
  go_wp2
  go_ret
  exact ⟨rfl, rfl⟩

set_option maxHeartbeats 400000 in
theorem lrpi24_0 (S gl n cp G : Nat) (x : Bool) (w : World) (c3 : w.cell? ⟨S, 3, none⟩ = some (.slice (some ⟨gl, 0, none⟩) n cp)) (hn : (0 : Int) < (n : Int)) (l : w.cell? ⟨gl, 3, none⟩ = some (.pointer (some ⟨G, 0, none⟩))) (g : w.cell? ⟨G, 1, none⟩ = some (.bool x)) :
    Calls Try.prog 24 #[.pointer (some ⟨S, 0, none⟩), .int .i64 0] w fun e w' => e = .returned (.bool x) ∧ w' = w := by
  go_enter Try.func24, Try.ntmps24
  go_wp2
  go_ret
  exact ⟨rfl, rfl⟩

set_option maxHeartbeats 400000 in
theorem lanchor25_0 (S gl n cp G : Nat) (x : Int) (w : World) (c3 : w.cell? ⟨S, 3, none⟩ = some (.slice (some ⟨gl, 0, none⟩) n cp)) (hn : (0 : Int) < (n : Int)) (l : w.cell? ⟨gl, 3, none⟩ = some (.pointer (some ⟨G, 0, none⟩))) (g : w.cell? ⟨G, 3, none⟩ = some (.int .i64 x)) :
    Calls Try.prog 25 #[.pointer (some ⟨S, 0, none⟩), .int .i64 0] w fun e w' => e = .returned (.int .i64 x) ∧ w' = w := by
  go_enter Try.func25, Try.ntmps25
  go_wp2
  go_ret
  exact ⟨rfl, rfl⟩

set_option maxHeartbeats 400000 in
theorem lruns27_0 (S gl n cp G : Nat) (x : Option Addr) (xn xc : Nat) (w : World) (c3 : w.cell? ⟨S, 3, none⟩ = some (.slice (some ⟨gl, 0, none⟩) n cp)) (hn : (0 : Int) < (n : Int)) (l : w.cell? ⟨gl, 3, none⟩ = some (.pointer (some ⟨G, 0, none⟩))) (g : w.cell? ⟨G, 4, none⟩ = some (.slice x xn xc)) :
    Calls Try.prog 27 #[.pointer (some ⟨S, 0, none⟩), .int .i64 0] w fun e w' => e = .returned (.slice x xn xc) ∧ w' = w := by
  go_enter Try.func27, Try.ntmps27
  go_wp2
  go_ret
  exact ⟨rfl, rfl⟩

set_option maxHeartbeats 400000 in
theorem lrun31_0 (S gl n cp G : Nat) (x : Int) (w : World) (c3 : w.cell? ⟨S, 3, none⟩ = some (.slice (some ⟨gl, 0, none⟩) n cp)) (hn : (0 : Int) < (n : Int)) (l : w.cell? ⟨gl, 3, none⟩ = some (.pointer (some ⟨G, 0, none⟩))) (g : w.cell? ⟨G, 5, none⟩ = some (.int .i64 x)) :
    Calls Try.prog 31 #[.pointer (some ⟨S, 0, none⟩), .int .i64 0] w fun e w' => e = .returned (.int .i64 x) ∧ w' = w := by
  go_enter Try.func31, Try.ntmps31
  go_wp2
  go_ret
  exact ⟨rfl, rfl⟩

set_option maxHeartbeats 400000 in
theorem learlier32_0 (S gl n cp G : Nat) (x : Int) (w : World) (c3 : w.cell? ⟨S, 3, none⟩ = some (.slice (some ⟨gl, 0, none⟩) n cp)) (hn : (0 : Int) < (n : Int)) (l : w.cell? ⟨gl, 3, none⟩ = some (.pointer (some ⟨G, 0, none⟩))) (g : w.cell? ⟨G, 6, none⟩ = some (.int .i64 x)) :
    Calls Try.prog 32 #[.pointer (some ⟨S, 0, none⟩), .int .i64 0] w fun e w' => e = .returned (.int .i64 x) ∧ w' = w := by
  go_enter Try.func32, Try.ntmps32
  go_wp2
  go_ret
  exact ⟨rfl, rfl⟩

set_option maxHeartbeats 400000 in
theorem hasYes20_1 (S gl n cp G : Nat) (w : World) (c3 : w.cell? ⟨S, 3, none⟩ = some (.slice (some ⟨gl, 0, none⟩) n cp)) (hn : (1 : Int) < (n : Int)) (l : w.cell? ⟨gl, 7, none⟩ = some (.pointer (some ⟨G, 0, none⟩))) :
    Calls Try.prog 20 #[.pointer (some ⟨S, 0, none⟩), .int .i64 1] w fun e w' => e = .returned (.bool true) ∧ w' = w := by
  go_enter Try.func20, Try.ntmps20
  go_wp2
  go_ret
  exact ⟨rfl, rfl⟩

set_option maxHeartbeats 400000 in
theorem hasNo20_1 (S gl n cp : Nat) (w : World) (c3 : w.cell? ⟨S, 3, none⟩ = some (.slice (some ⟨gl, 0, none⟩) n cp)) (hn : (1 : Int) < (n : Int)) (l : w.cell? ⟨gl, 7, none⟩ = some (.pointer none)) :
    Calls Try.prog 20 #[.pointer (some ⟨S, 0, none⟩), .int .i64 1] w fun e w' => e = .returned (.bool false) ∧ w' = w := by
  go_enter Try.func20, Try.ntmps20
  go_wp2
  go_ret
  exact ⟨rfl, rfl⟩

set_option maxHeartbeats 400000 in
theorem key21_1 (S gl n cp : Nat) (b : Bool) (w : World) (c3 : w.cell? ⟨S, 3, none⟩ = some (.slice (some ⟨gl, 0, none⟩) n cp)) (hn : (1 : Int) < (n : Int)) (l : w.cell? ⟨gl, 5, none⟩ = some (.bool b)) :
    Calls Try.prog 21 #[.pointer (some ⟨S, 0, none⟩), .int .i64 1] w fun e w' => e = .returned (.bool b) ∧ w' = w := by
  go_enter Try.func21, Try.ntmps21
  go_wp2
  go_ret
  exact ⟨rfl, rfl⟩

set_option maxHeartbeats 400000 in
theorem indent22_1 (S gl n cp : Nat) (x : Int) (w : World) (c3 : w.cell? ⟨S, 3, none⟩ = some (.slice (some ⟨gl, 0, none⟩) n cp)) (hn : (1 : Int) < (n : Int)) (l : w.cell? ⟨gl, 4, none⟩ = some (.int .i64 x)) :
    Calls Try.prog 22 #[.pointer (some ⟨S, 0, none⟩), .int .i64 1] w fun e w' => e = .returned (.int .i64 x) ∧ w' = w := by
  go_enter Try.func22, Try.ntmps22
  go_wp2
  go_ret
  exact ⟨rfl, rfl⟩

set_option maxHeartbeats 400000 in
theorem lindent23_1 (S gl n cp G : Nat) (x : Int) (w : World) (c3 : w.cell? ⟨S, 3, none⟩ = some (.slice (some ⟨gl, 0, none⟩) n cp)) (hn : (1 : Int) < (n : Int)) (l : w.cell? ⟨gl, 7, none⟩ = some (.pointer (some ⟨G, 0, none⟩))) (g : w.cell? ⟨G, 0, none⟩ = some (.int .i64 x)) :
    Calls Try.prog 23 #[.pointer (some ⟨S, 0, none⟩), .int .i64 1] w fun e w' => e = .returned (.int .i64 x) ∧ w' = w := by
  go_enter Try.func23, Try.ntmps23
  go_wp2
  go_ret
  exact ⟨rfl, rfl⟩

set_option maxHeartbeats 400000 in
theorem lrpi24_1 (S gl n cp G : Nat) (x : Bool) (w : World) (c3 : w.cell? ⟨S, 3, none⟩ = some (.slice (some ⟨gl, 0, none⟩) n cp)) (hn : (1 : Int) < (n : Int)) (l : w.cell? ⟨gl, 7, none⟩ = some (.pointer (some ⟨G, 0, none⟩))) (g : w.cell? ⟨G, 1, none⟩ = some (.bool x)) :
    Calls Try.prog 24 #[.pointer (some ⟨S, 0, none⟩), .int .i64 1] w fun e w' => e = .returned (.bool x) ∧ w' = w := by
  go_enter Try.func24, Try.ntmps24
  go_wp2
  go_ret
  exact ⟨rfl, rfl⟩

set_option maxHeartbeats 400000 in
theorem lanchor25_1 (S gl n cp G : Nat) (x : Int) (w : World) (c3 : w.cell? ⟨S, 3, none⟩ = some (.slice (some ⟨gl, 0, none⟩) n cp)) (hn : (1 : Int) < (n : Int)) (l : w.cell? ⟨gl, 7, none⟩ = some (.pointer (some ⟨G, 0, none⟩))) (g : w.cell? ⟨G, 3, none⟩ = some (.int .i64 x)) :
    Calls Try.prog 25 #[.pointer (some ⟨S, 0, none⟩), .int .i64 1] w fun e w' => e = .returned (.int .i64 x) ∧ w' = w := by
  go_enter Try.func25, Try.ntmps25
  go_wp2
  go_ret
  exact ⟨rfl, rfl⟩

set_option maxHeartbeats 400000 in
theorem lruns27_1 (S gl n cp G : Nat) (x : Option Addr) (xn xc : Nat) (w : World) (c3 : w.cell? ⟨S, 3, none⟩ = some (.slice (some ⟨gl, 0, none⟩) n cp)) (hn : (1 : Int) < (n : Int)) (l : w.cell? ⟨gl, 7, none⟩ = some (.pointer (some ⟨G, 0, none⟩))) (g : w.cell? ⟨G, 4, none⟩ = some (.slice x xn xc)) :
    Calls Try.prog 27 #[.pointer (some ⟨S, 0, none⟩), .int .i64 1] w fun e w' => e = .returned (.slice x xn xc) ∧ w' = w := by
  go_enter Try.func27, Try.ntmps27
  go_wp2
  go_ret
  exact ⟨rfl, rfl⟩

set_option maxHeartbeats 400000 in
theorem lrun31_1 (S gl n cp G : Nat) (x : Int) (w : World) (c3 : w.cell? ⟨S, 3, none⟩ = some (.slice (some ⟨gl, 0, none⟩) n cp)) (hn : (1 : Int) < (n : Int)) (l : w.cell? ⟨gl, 7, none⟩ = some (.pointer (some ⟨G, 0, none⟩))) (g : w.cell? ⟨G, 5, none⟩ = some (.int .i64 x)) :
    Calls Try.prog 31 #[.pointer (some ⟨S, 0, none⟩), .int .i64 1] w fun e w' => e = .returned (.int .i64 x) ∧ w' = w := by
  go_enter Try.func31, Try.ntmps31
  go_wp2
  go_ret
  exact ⟨rfl, rfl⟩

set_option maxHeartbeats 400000 in
theorem learlier32_1 (S gl n cp G : Nat) (x : Int) (w : World) (c3 : w.cell? ⟨S, 3, none⟩ = some (.slice (some ⟨gl, 0, none⟩) n cp)) (hn : (1 : Int) < (n : Int)) (l : w.cell? ⟨gl, 7, none⟩ = some (.pointer (some ⟨G, 0, none⟩))) (g : w.cell? ⟨G, 6, none⟩ = some (.int .i64 x)) :
    Calls Try.prog 32 #[.pointer (some ⟨S, 0, none⟩), .int .i64 1] w fun e w' => e = .returned (.int .i64 x) ∧ w' = w := by
  go_enter Try.func32, Try.ntmps32
  go_wp2
  go_ret
  exact ⟨rfl, rfl⟩

set_option maxHeartbeats 400000 in
theorem hasYes20_2 (S gl n cp G : Nat) (w : World) (c3 : w.cell? ⟨S, 3, none⟩ = some (.slice (some ⟨gl, 0, none⟩) n cp)) (hn : (2 : Int) < (n : Int)) (l : w.cell? ⟨gl, 11, none⟩ = some (.pointer (some ⟨G, 0, none⟩))) :
    Calls Try.prog 20 #[.pointer (some ⟨S, 0, none⟩), .int .i64 2] w fun e w' => e = .returned (.bool true) ∧ w' = w := by
  go_enter Try.func20, Try.ntmps20
  go_wp2
  go_ret
  exact ⟨rfl, rfl⟩

set_option maxHeartbeats 400000 in
theorem hasNo20_2 (S gl n cp : Nat) (w : World) (c3 : w.cell? ⟨S, 3, none⟩ = some (.slice (some ⟨gl, 0, none⟩) n cp)) (hn : (2 : Int) < (n : Int)) (l : w.cell? ⟨gl, 11, none⟩ = some (.pointer none)) :
    Calls Try.prog 20 #[.pointer (some ⟨S, 0, none⟩), .int .i64 2] w fun e w' => e = .returned (.bool false) ∧ w' = w := by
  go_enter Try.func20, Try.ntmps20
  go_wp2
  go_ret
  exact ⟨rfl, rfl⟩

set_option maxHeartbeats 400000 in
theorem key21_2 (S gl n cp : Nat) (b : Bool) (w : World) (c3 : w.cell? ⟨S, 3, none⟩ = some (.slice (some ⟨gl, 0, none⟩) n cp)) (hn : (2 : Int) < (n : Int)) (l : w.cell? ⟨gl, 9, none⟩ = some (.bool b)) :
    Calls Try.prog 21 #[.pointer (some ⟨S, 0, none⟩), .int .i64 2] w fun e w' => e = .returned (.bool b) ∧ w' = w := by
  go_enter Try.func21, Try.ntmps21
  go_wp2
  go_ret
  exact ⟨rfl, rfl⟩

set_option maxHeartbeats 400000 in
theorem indent22_2 (S gl n cp : Nat) (x : Int) (w : World) (c3 : w.cell? ⟨S, 3, none⟩ = some (.slice (some ⟨gl, 0, none⟩) n cp)) (hn : (2 : Int) < (n : Int)) (l : w.cell? ⟨gl, 8, none⟩ = some (.int .i64 x)) :
    Calls Try.prog 22 #[.pointer (some ⟨S, 0, none⟩), .int .i64 2] w fun e w' => e = .returned (.int .i64 x) ∧ w' = w := by
  go_enter Try.func22, Try.ntmps22
  go_wp2
  go_ret
  exact ⟨rfl, rfl⟩

set_option maxHeartbeats 400000 in
theorem lindent23_2 (S gl n cp G : Nat) (x : Int) (w : World) (c3 : w.cell? ⟨S, 3, none⟩ = some (.slice (some ⟨gl, 0, none⟩) n cp)) (hn : (2 : Int) < (n : Int)) (l : w.cell? ⟨gl, 11, none⟩ = some (.pointer (some ⟨G, 0, none⟩))) (g : w.cell? ⟨G, 0, none⟩ = some (.int .i64 x)) :
    Calls Try.prog 23 #[.pointer (some ⟨S, 0, none⟩), .int .i64 2] w fun e w' => e = .returned (.int .i64 x) ∧ w' = w := by
  go_enter Try.func23, Try.ntmps23
  go_wp2
  go_ret
  exact ⟨rfl, rfl⟩

set_option maxHeartbeats 400000 in
theorem lrpi24_2 (S gl n cp G : Nat) (x : Bool) (w : World) (c3 : w.cell? ⟨S, 3, none⟩ = some (.slice (some ⟨gl, 0, none⟩) n cp)) (hn : (2 : Int) < (n : Int)) (l : w.cell? ⟨gl, 11, none⟩ = some (.pointer (some ⟨G, 0, none⟩))) (g : w.cell? ⟨G, 1, none⟩ = some (.bool x)) :
    Calls Try.prog 24 #[.pointer (some ⟨S, 0, none⟩), .int .i64 2] w fun e w' => e = .returned (.bool x) ∧ w' = w := by
  go_enter Try.func24, Try.ntmps24
  go_wp2
  go_ret
  exact ⟨rfl, rfl⟩

set_option maxHeartbeats 400000 in
theorem lanchor25_2 (S gl n cp G : Nat) (x : Int) (w : World) (c3 : w.cell? ⟨S, 3, none⟩ = some (.slice (some ⟨gl, 0, none⟩) n cp)) (hn : (2 : Int) < (n : Int)) (l : w.cell? ⟨gl, 11, none⟩ = some (.pointer (some ⟨G, 0, none⟩))) (g : w.cell? ⟨G, 3, none⟩ = some (.int .i64 x)) :
    Calls Try.prog 25 #[.pointer (some ⟨S, 0, none⟩), .int .i64 2] w fun e w' => e = .returned (.int .i64 x) ∧ w' = w := by
  go_enter Try.func25, Try.ntmps25
  go_wp2
  go_ret
  exact ⟨rfl, rfl⟩

set_option maxHeartbeats 400000 in
theorem lruns27_2 (S gl n cp G : Nat) (x : Option Addr) (xn xc : Nat) (w : World) (c3 : w.cell? ⟨S, 3, none⟩ = some (.slice (some ⟨gl, 0, none⟩) n cp)) (hn : (2 : Int) < (n : Int)) (l : w.cell? ⟨gl, 11, none⟩ = some (.pointer (some ⟨G, 0, none⟩))) (g : w.cell? ⟨G, 4, none⟩ = some (.slice x xn xc)) :
    Calls Try.prog 27 #[.pointer (some ⟨S, 0, none⟩), .int .i64 2] w fun e w' => e = .returned (.slice x xn xc) ∧ w' = w := by
  go_enter Try.func27, Try.ntmps27
  go_wp2
  go_ret
  exact ⟨rfl, rfl⟩

set_option maxHeartbeats 400000 in
theorem lrun31_2 (S gl n cp G : Nat) (x : Int) (w : World) (c3 : w.cell? ⟨S, 3, none⟩ = some (.slice (some ⟨gl, 0, none⟩) n cp)) (hn : (2 : Int) < (n : Int)) (l : w.cell? ⟨gl, 11, none⟩ = some (.pointer (some ⟨G, 0, none⟩))) (g : w.cell? ⟨G, 5, none⟩ = some (.int .i64 x)) :
    Calls Try.prog 31 #[.pointer (some ⟨S, 0, none⟩), .int .i64 2] w fun e w' => e = .returned (.int .i64 x) ∧ w' = w := by
  go_enter Try.func31, Try.ntmps31
  go_wp2
  go_ret
  exact ⟨rfl, rfl⟩

set_option maxHeartbeats 400000 in
theorem learlier32_2 (S gl n cp G : Nat) (x : Int) (w : World) (c3 : w.cell? ⟨S, 3, none⟩ = some (.slice (some ⟨gl, 0, none⟩) n cp)) (hn : (2 : Int) < (n : Int)) (l : w.cell? ⟨gl, 11, none⟩ = some (.pointer (some ⟨G, 0, none⟩))) (g : w.cell? ⟨G, 6, none⟩ = some (.int .i64 x)) :
    Calls Try.prog 32 #[.pointer (some ⟨S, 0, none⟩), .int .i64 2] w fun e w' => e = .returned (.int .i64 x) ∧ w' = w := by
  go_enter Try.func32, Try.ntmps32
  go_wp2
  go_ret
  exact ⟨rfl, rfl⟩

set_option maxHeartbeats 400000 in
theorem targets29 (S tn tc : Nat) (ta : Option Addr) (w : World) (c6 : w.cell? ⟨S, 6, none⟩ = some (.slice ta tn tc)) :
    Calls Try.prog 29 #[.pointer (some ⟨S, 0, none⟩)] w fun e w' => e = .returned (.slice ta tn tc) ∧ w' = w := by
  go_enter Try.func29, Try.ntmps29
  go_wp2
  go_ret
  exact ⟨rfl, rfl⟩

set_option maxHeartbeats 400000 in
theorem longCount33 (S n c : Nat) (a : Option Addr) (w : World) (c7 : w.cell? ⟨S, 7, none⟩ = some (.slice a n c)) :
    Calls Try.prog 33 #[.pointer (some ⟨S, 0, none⟩)] w fun e w' => e = .returned (.int .i64 n) ∧ w' = w := by
  go_enter Try.func33, Try.ntmps33
  go_wp2
  go_ret
  exact ⟨rfl, rfl⟩

set_option maxHeartbeats 400000 in
theorem longFlow34 (S q n c : Nat) (x : Bool) (w : World) (c7 : w.cell? ⟨S, 7, none⟩ = some (.slice (some ⟨q, 0, none⟩) n c)) (hn : (0 : Int) < (n : Int)) (l : w.cell? ⟨q, 0, none⟩ = some (.bool x)) :
    Calls Try.prog 34 #[.pointer (some ⟨S, 0, none⟩), .int .i64 0] w fun e w' => e = .returned (.bool x) ∧ w' = w := by
  go_enter Try.func34, Try.ntmps34
  go_wp2
  go_ret
  exact ⟨rfl, rfl⟩

set_option maxHeartbeats 400000 in
theorem longAnchor35 (S q n c : Nat) (x : Int) (w : World) (c7 : w.cell? ⟨S, 7, none⟩ = some (.slice (some ⟨q, 0, none⟩) n c)) (hn : (0 : Int) < (n : Int)) (l : w.cell? ⟨q, 1, none⟩ = some (.int .i64 x)) :
    Calls Try.prog 35 #[.pointer (some ⟨S, 0, none⟩), .int .i64 0] w fun e w' => e = .returned (.int .i64 x) ∧ w' = w := by
  go_enter Try.func35, Try.ntmps35
  go_wp2
  go_ret
  exact ⟨rfl, rfl⟩

set_option maxHeartbeats 400000 in
theorem longRuns36 (S q n c : Nat) (x : Option Addr) (xn xc : Nat) (w : World) (c7 : w.cell? ⟨S, 7, none⟩ = some (.slice (some ⟨q, 0, none⟩) n c)) (hn : (0 : Int) < (n : Int)) (l : w.cell? ⟨q, 2, none⟩ = some (.slice x xn xc)) :
    Calls Try.prog 36 #[.pointer (some ⟨S, 0, none⟩), .int .i64 0] w fun e w' => e = .returned (.slice x xn xc) ∧ w' = w := by
  go_enter Try.func36, Try.ntmps36
  go_wp2
  go_ret
  exact ⟨rfl, rfl⟩

set_option maxHeartbeats 400000 in
theorem setPos28 (S D : Nat) (pos most new : Int) (lv tv gv : Value) (w : World) (hS : ScanAt w S D pos most lv tv gv) :
    Calls Try.prog 28 #[.pointer (some ⟨S, 0, none⟩), .int .i64 new] w fun e w' => e = .returned (.tuple #[]) ∧ ScanAt w' S D new most lv tv gv ∧ Kept (fun k => k = S) w w' := by
  have c1 := hS.c1
  have f1 := hS.fr 1
  have HS : Hid (ScanAt w S D pos most lv tv gv) := hS
  clear hS
  go_enter Try.func28, Try.ntmps28
  go_wp2
  go_end0
  exact ⟨rfl, HS.out.set1 _, Kept.setCell (p := fun k => k = S) (Kept.refl _ w) (q := ⟨S, 1, none⟩) (.inl rfl) _⟩

set_option maxHeartbeats 400000 in
theorem setTargets16 (S D : Nat) (pos most : Int) (lv tv gv : Value) (ta : Option Addr) (tn tc : Nat) (w : World) (hS : ScanAt w S D pos most lv tv gv) :
    Calls Try.prog 16 #[.pointer (some ⟨S, 0, none⟩), .slice ta tn tc] w fun e w' => e = .returned (.tuple #[]) ∧ ScanAt w' S D pos most lv (.slice ta tn tc) gv ∧ Kept (fun k => k = S) w w' := by
  have c6 := hS.c6
  have f6 := hS.fr 6
  have HS : Hid (ScanAt w S D pos most lv tv gv) := hS
  clear hS
  go_enter Try.func16, Try.ntmps16
  go_wp2
  go_end0
  exact ⟨rfl, HS.out.set6 _, Kept.setCell (p := fun k => k = S) (Kept.refl _ w) (q := ⟨S, 6, none⟩) (.inl rfl) _⟩

set_option maxHeartbeats 400000 in
theorem newScan15 (D : Nat) (most : Int) (w : World) :
    Calls Try.prog 15 #[.slice (some ⟨D, 0, none⟩) 9 9, .int .i64 0, .int .i64 most] w fun e w' => e = .returned (.pointer (some ⟨w.heap.size, 0, none⟩)) ∧ ScanAt w' w.heap.size D 0 most (.slice none 0 0) (.slice none 0 0) (.slice none 0 0) ∧ Kept no w w' ∧ w'.heap.size = w.heap.size + 1 := by
  go_enter Try.func15, Try.ntmps15
  go_wp2
  go_ret
  exact ⟨rfl, heap_new _ _, (Kept.refl _ w).alloc _, by simp⟩

set_option maxHeartbeats 400000 in
theorem enter18 (S : Nat) (start indent : Int) (w : World) (R : World → Prop) (h : Calls Try.prog 39 #[.pointer (some ⟨S, 0, none⟩), .int .i64 start, .int .i64 indent] w fun e w' => e = .returned (.int .i64 (-1)) ∧ R w') :
    Calls Try.prog 18 #[.pointer (some ⟨S, 0, none⟩), .int .i64 start, .int .i64 indent] w fun e w' => e = .returned (.int .i64 (-1)) ∧ R w' := by
  have H : Hid (Calls Try.prog 39 #[.pointer (some ⟨S, 0, none⟩), .int .i64 start, .int .i64 indent] w fun e w' => e = .returned (.int .i64 (-1)) ∧ R w') := h
  clear h
  go_enter Try.func18, Try.ntmps18
  go_wp2_with fail
  refine H.out.mono ?_
  rintro e w1 ⟨rfl, hR⟩
  go_wp2
  go_ret
  exact ⟨rfl, hR⟩

end Go.Proofs.Qxb6600513a
