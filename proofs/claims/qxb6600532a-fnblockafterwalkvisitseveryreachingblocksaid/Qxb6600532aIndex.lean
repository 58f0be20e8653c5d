/-
  blockAfter's closure and slices.IndexFunc over it.
-/
import Derived.Test.Qxb6600532aBase
import Derived.Test.Qxb6600532aTree
import Derived.Deep.QuietTactic
import Derived.BigQuiet
namespace Go.Proofs.Qxb6600532a
open Go.RowKit
set_option linter.unusedVariables false
set_option linter.unusedSimpArgs false

theorem u16_bounds {x : Int} (h : (Lit.int .u16 x).wf = true) : 0 ≤ x ∧ x ≤ 65535 := by
  simp [Lit.wf, IntKind.min, IntKind.max, IntKind.signed, IntKind.bits] at h
  omega

set_option maxHeartbeats 400000 in
theorem reaches20 (bx : Nat) (x d : Int) (w : World) (h0 : 0 ≤ x) (h1 : x ≤ 65535) (hd : w.cell? ⟨bx, 0, none⟩ = some (.int .i64 d)) :
    Calls Try.prog 20 #[.int .u16 x, .pointer (some ⟨bx, 0, none⟩)] w fun e w' => e = .returned (.bool (decide (x ≤ d))) ∧ w' = w := by
  go_enter Try.func20, Try.ntmps20
  go_wp2
  go_ret
  exact ⟨rfl, rfl⟩

set_option maxHeartbeats 1000000 in
theorem index21_some (b off n c bx : Nat) (l : List Int) (d : Int) (w : World) (hl : l.length = n) (hn : n ≤ 1048577) (hcell : ∀ i, i < n → w.cell? ⟨b, off + i, none⟩ = some (.int .u16 (l.getD i 0))) (hwf : ∀ x ∈ l, (Lit.int .u16 x).wf = true) (hd : w.cell? ⟨bx, 0, none⟩ = some (.int .i64 d)) :
    Calls Try.prog 21 #[.slice (some ⟨b, off, none⟩) n c, .func (.func 20) #[] #[.pointer (some ⟨bx, 0, none⟩)]] w fun e w' => (∃ r, e = .returned (.int .i64 r) ∧ Ix l d r) ∧ w' = w := by
  have H : Hid (∀ i, i < n → Calls Try.prog 20 #[.int .u16 (l.getD i 0), .pointer (some ⟨bx, 0, none⟩)] w fun e w' => e = .returned (.bool (decide (l.getD i 0 ≤ d))) ∧ w' = w) := fun i hi => by
    have hm : l.getD i 0 ∈ l := by
      have : i < l.length := by omega
      simp [List.getElem?_eq_getElem this]
    have := u16_bounds (hwf _ hm)
    exact reaches20 bx _ d w this.1 this.2 hd
  have HC : Hid (∀ i, i < n → w.cell? ⟨b, off + i, none⟩ = some (.int .u16 (l.getD i 0))) := hcell
  have HL : Hid (l.length = n) := hl
  clear hcell hl hwf hd
  go_enter Try.func21, Try.ntmps21
  go_wp2
  go_loopw [8] (fun iv wr => ∃ k : Nat, k ≤ n ∧ iv = .int .i64 k ∧ Hid (∀ j, j < k → d < l.getD j 0) ∧ wr = w) (fun iv _ => n - (intOf iv).toNat)
  case atStart => exact ⟨0, by omega, rfl, fun j hj => by omega, rfl⟩
  case round =>
    obtain ⟨k, hk, rfl, E, hw⟩ := hrel
    subst hw
    by_cases hlt : k < n
    · have hx := HC.out k hlt
      have HK := H.out k hlt
      have HH : Hid (Calls Try.prog 20 #[.int .u16 (l.getD k 0), .pointer (some ⟨bx, 0, none⟩)] wr fun e w' => e = .returned (.bool (decide (l.getD k 0 ≤ d))) ∧ w' = wr) := HK
      clear HK
      have EX : Hid (l.getD k 0 ≤ d → Ix l d k) := fun h => .inr ⟨k, rfl, by rw [HL.out]; exact hlt, h, fun j hj => E.out j hj⟩
      have EN : Hid (d < l.getD k 0 → ∀ j, j < k + 1 → d < l.getD j 0) := fun h j hj => by
        rcases Nat.lt_or_ge j k with h' | h'
        · exact E.out j h'
        · obtain rfl : j = k := by omega
          exact h
      generalize l.getD k 0 = x at hx HH EX EN
      go_wp2_with fail
      refine HH.out.mono ?_
      rintro e w1 ⟨rfl, hw⟩
      cases hw
      by_cases hxd : x ≤ d
      · rw [decide_eq_true hxd]
        go_wp2
        go_ret
        exact ⟨⟨k, rfl, EX.out hxd⟩, rfl⟩
      · rw [decide_eq_false hxd]
        go_wp2
        go_roundw
        case rel => exact ⟨k + 1, by omega, by go_num, EN.out (by omega), by trivial⟩
        case measure => simp [intOf]; omega
    · go_wp2
      go_ret
      exact ⟨⟨-1, rfl, .inl ⟨rfl, fun j hj => E.out j (by rw [HL.out] at hj; omega)⟩⟩, rfl⟩

/-- A part of a slice. -/
theorem Sl.sub {k : IntKind} {w : World} {b off n c : Nat} {l : List Int} (h : Sl k w (some ⟨b, off, none⟩) n c l) (i e : Nat) (hi : i < e) (he : e ≤ n) : (∀ t, t < e - i → w.cell? ⟨b, off + i + t, none⟩ = some (.int k (((l.drop i).take (e - i)).getD t 0))) ∧ ((l.drop i).take (e - i)).length = e - i ∧ ∀ x ∈ (l.drop i).take (e - i), (Lit.int k x).wf = true := by
  have hl := h.len
  obtain ⟨b', o', he', hc⟩ := h.cells (by omega)
  simp at he'
  obtain ⟨rfl, rfl⟩ := he'
  refine ⟨fun t ht => ?_, by simp; omega, fun x hx => h.wf x (List.mem_of_mem_drop (List.mem_of_mem_take hx))⟩
  rw [Nat.add_assoc, hc (i + t) (by omega)]
  simp [List.getElem?_take, ht, List.getElem?_drop]

theorem sub_getD (l : List Int) (i m t : Nat) (ht : t < m) : ((l.drop i).take m).getD t 0 = l.getD (i + t) 0 := by
  simp [List.getElem?_take, ht, List.getElem?_drop]
end Go.Proofs.Qxb6600532a
