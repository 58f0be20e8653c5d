/-
  zzCountBreaksB1, zzLastBreakEndB1.
-/
import Derived.Test.Qxb6600513aEnds
namespace Go.Proofs.Qxb6600513a
open Go.RowKit
set_option linter.unusedVariables false

theorem ret_int {k : IntKind} {a b : Int} (h : a = b) : Ending.returned (.int k a) = .returned (.int k b) := by rw [h]

set_option maxHeartbeats 1000000 in
theorem count10_some (b off n c : Nat) (l : List Int) (w : World) (hl : l.length = n) (hn : n ≤ 1048577)
    (hcell : ∀ i, i < n → w.cell? ⟨b, off + i, none⟩ = some (.int .u8 (l.getD i 0))) :
    Calls Try.prog 10 #[.slice (some ⟨b, off, none⟩) n c] w fun e w' => e = .returned (.int .i64 (cnt 0 l)) ∧ w' = w := by
  have H : Hid (∀ j, j < n → Calls Try.prog 38 #[.slice (some ⟨b, off, none⟩) n c, .int .i64 j] w fun e w' => e = .returned (.bool (endsB l j)) ∧ w' = w) := fun j hj => ends38 b off n c j l w hl hn hj hcell
  have HL : Hid (l.length = n) := hl
  clear hcell hl
  rw [closed_cnt]
  go_enter Try.func10, Try.ntmps10
  go_wp2
  go_loopw [3, 4] (fun nv jv wr => ∃ k j : Nat, k ≤ j ∧ j ≤ n ∧ nv = .int .i64 k ∧ jv = .int .i64 j ∧ Hid (k + ec (p2At l j) (p1At l j) (l.drop j) = ec (p2At l 0) (p1At l 0) l) ∧ wr = w) (fun _ jv _ => n - (intOf jv).toNat)
  case atStart => exact ⟨0, 0, by omega, by omega, rfl, rfl, show _ = _ by simp, rfl⟩
  case round =>
    obtain ⟨k, j, hk, hj, rfl, rfl, E, hw⟩ := hrel
    subst hw
    by_cases hlt : j < n
    · have HS : Hid (ec (p2At l j) (p1At l j) (l.drop j) = (if endsB l j = true then 1 else 0) + ec (p2At l (j + 1)) (p1At l (j + 1)) (l.drop (j + 1))) := ec_step l j (by rw [HL.out]; exact hlt)
      go_wp2_with fail
      refine (H.out j hlt).mono ?_
      rintro e w1 ⟨rfl, hw⟩
      cases hw
      cases he : endsB l j
      · go_wp2
        go_roundw
        case rel => exact ⟨k, j + 1, by omega, by omega, rfl, by go_num, (show _ = _ by have h1 := E.out; have h2 := HS.out; rw [he] at h2; rw [h2] at h1; simpa using h1), by trivial⟩
        case measure => simp [intOf]; omega
      · go_wp2
        go_roundw
        case rel => exact ⟨k + 1, j + 1, by omega, by omega, by go_num, by go_num, (show _ = _ by have h1 := E.out; have h2 := HS.out; rw [he] at h2; rw [h2] at h1; rw [if_pos rfl] at h1; omega), by trivial⟩
        case measure => simp [intOf]; omega
    · go_wp2
      go_ret
      have e : l.drop j = [] := List.drop_eq_nil_of_le (by rw [HL.out]; omega)
      have h1 := E.out
      rw [e, ec] at h1
      exact ⟨ret_int (by omega), rfl⟩

set_option maxHeartbeats 400000 in
theorem count10_none (a : Option Addr) (c : Nat) (w : World) :
    Calls Try.prog 10 #[.slice a 0 c] w fun e w' => e = .returned (.int .i64 0) ∧ w' = w := by
  go_enter Try.func10, Try.ntmps10
  go_wp2
  go_loopw [3, 4] (fun nv jv wr => nv = .int .i64 0 ∧ jv = .int .i64 0 ∧ wr = w) (fun _ _ _ => 0)
  case atStart => exact ⟨rfl, rfl, rfl⟩
  case round =>
    obtain ⟨rfl, rfl, hw⟩ := hrel
    subst hw
    go_wp2
    go_ret
    exact ⟨rfl, rfl⟩

set_option maxHeartbeats 1000000 in
theorem last11_some (b off n c : Nat) (l : List Int) (w : World) (hl : l.length = n) (hn : n ≤ 1048577)
    (hcell : ∀ i, i < n → w.cell? ⟨b, off + i, none⟩ = some (.int .u8 (l.getD i 0))) :
    Calls Try.prog 11 #[.slice (some ⟨b, off, none⟩) n c] w fun e w' => (∃ v : Nat, e = .returned (.int .i64 v) ∧ v + aft 0 l n = n) ∧ w' = w := by
  have H : Hid (∀ j, j < n → Calls Try.prog 38 #[.slice (some ⟨b, off, none⟩) n c, .int .i64 j] w fun e w' => e = .returned (.bool (endsB l j)) ∧ w' = w) := fun j hj => ends38 b off n c j l w hl hn hj hcell
  have HL : Hid (l.length = n) := hl
  clear hcell hl
  go_enter Try.func11, Try.ntmps11
  go_wp2
  go_loopw [3] (fun jv wr => ∃ m : Nat, m ≤ n ∧ jv = .int .i64 ((m : Int) - 1) ∧ Hid (∀ i, m ≤ i → i < n → endsB l i = false) ∧ wr = w) (fun jv _ => (intOf jv + 1).toNat)
  case atStart => exact ⟨n, Nat.le_refl _, rfl, fun i h1 h2 => by omega, rfl⟩
  case round =>
    obtain ⟨m, hm, rfl, E, hw⟩ := hrel
    subst hw
    rcases m with _ | j
    · go_wp2
      go_ret
      refine ⟨⟨0, rfl, ?_⟩, rfl⟩
      rw [aft_never l n fun i hi => E.out i (by omega) (by rw [← HL.out]; exact hi)]
      omega
    · have ej : (((j + 1 : Nat) : Int) - 1) = (j : Int) := by omega
      rw [ej]
      clear ej
      go_wp2_with fail
      refine (H.out j (by omega)).mono ?_
      rintro e w1 ⟨rfl, hw⟩
      cases hw
      cases he : endsB l j
      · go_wp2
        go_roundw
        case rel => exact ⟨j, by omega, by go_num, fun i h1 h2 => (Nat.eq_or_lt_of_le h1).elim (fun h => h ▸ he) (fun h => E.out i h h2), by trivial⟩
        case measure => simp [intOf]
      · go_wp2
        go_ret
        refine ⟨⟨j + 1, by rfl, ?_⟩, rfl⟩
        rw [aft_last l j n (by rw [HL.out]; omega) he fun i h1 h2 => E.out i h1 (by rw [← HL.out]; exact h2), HL.out]
        omega

set_option maxHeartbeats 400000 in
theorem last11_none (a : Option Addr) (c : Nat) (w : World) :
    Calls Try.prog 11 #[.slice a 0 c] w fun e w' => e = .returned (.int .i64 0) ∧ w' = w := by
  go_enter Try.func11, Try.ntmps11
  go_wp2
  go_loopw [3] (fun jv wr => jv = .int .i64 (-1) ∧ wr = w) (fun _ _ => 0)
  case atStart => exact ⟨rfl, rfl⟩
  case round =>
    obtain ⟨rfl, hw⟩ := hrel
    subst hw
    go_wp2
    go_ret
    exact ⟨rfl, rfl⟩

theorem count10 (a : Option Addr) (n c : Nat) (l : List Int) (w : World) (h : Sl .u8 w a n c l) (hn : n ≤ 1048577) :
    Calls Try.prog 10 #[.slice a n c] w fun e w' => e = .returned (.int .i64 (cnt 0 l)) ∧ w' = w := by
  rcases Nat.eq_zero_or_pos n with h0 | h0
  · subst h0
    obtain rfl : l = [] := List.eq_nil_of_length_eq_zero h.len
    exact count10_none a c w
  · obtain ⟨b, off, rfl, hc⟩ := h.cells h0
    exact count10_some b off n c l w h.len hn hc

theorem last11 (a : Option Addr) (n c : Nat) (l : List Int) (w : World) (h : Sl .u8 w a n c l) (hn : n ≤ 1048577) :
    Calls Try.prog 11 #[.slice a n c] w fun e w' => (∃ v : Nat, e = .returned (.int .i64 v) ∧ v + aft 0 l n = n) ∧ w' = w := by
  rcases Nat.eq_zero_or_pos n with h0 | h0
  · subst h0
    obtain rfl : l = [] := List.eq_nil_of_length_eq_zero h.len
    refine (last11_none a c w).mono ?_
    rintro e w' ⟨rfl, hw⟩
    exact ⟨⟨0, rfl, rfl⟩, hw⟩
  · obtain ⟨b, off, rfl, hc⟩ := h.cells h0
    exact last11_some b off n c l w h.len hn hc
end Go.Proofs.Qxb6600513a
