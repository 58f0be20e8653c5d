/-
  bytes.Equal, bytes.HasPrefix at this program.
-/
import Derived.Test.Qxb6600513aBase
import Derived.Test.Qxb6600513aPlain
import Derived.Lib.SlBytesConst
namespace Go.Proofs.Qxb6600513a
open Go.RowKit

theorem bytesOf_inj {xs ys : List Int} (hx : ∀ x ∈ xs, 0 ≤ x ∧ x ≤ 255) (hy : ∀ x ∈ ys, 0 ≤ x ∧ x ≤ 255) (h : Lib.bytesOf xs = Lib.bytesOf ys) : xs = ys := by
  induction xs generalizing ys with
  | nil => cases ys <;> simp_all [Lib.bytesOf]
  | cons x xs ih =>
    cases ys with
    | nil => simp [Lib.bytesOf] at h
    | cons y ys =>
      simp only [Lib.bytesOf, List.map_cons, List.cons.injEq] at h
      have h0 := hx x (by simp)
      have h1 := hy y (by simp)
      have e : x = y := by
        have := congrArg UInt8.toNat h.1
        simp at this
        omega
      rw [e, ih (fun z hz => hx z (by simp [hz])) (fun z hz => hy z (by simp [hz])) h.2]

set_option maxHeartbeats 400000 in
theorem equal47 (v1 v2 : Value) (xs ys : List Int) (w : World)
    (h1 : (convert 22 9 v1).run Try.prog w = .ok (.string (strOfNums xs)) w) (h2 : (convert 22 9 v2).run Try.prog w = .ok (.string (strOfNums ys)) w) :
    Calls Try.prog 47 #[v1, v2] w fun e w' => e = .returned (.bool (Lib.bytesOf xs == Lib.bytesOf ys)) ∧ w' = w := by
  rw [← Lib.strOfNums_toList, ← Lib.strOfNums_toList]
  go_enter Try.func47, Try.ntmps47
  go_wp2
  go_ret
  exact ⟨rfl, rfl⟩

set_option maxHeartbeats 400000 in
theorem hasPrefix46 (b1 o1 n c b2 o2 m d : Nat) (xs ys : List Int) (w : World) (hx : xs.length = n) (hy : ys.length = m) (hnc : n ≤ c)
    (hc1 : ∀ i, i < n → w.cell? ⟨b1, o1 + i, none⟩ = some (.int .u8 (xs.getD i 0))) (hc2 : ∀ i, i < m → w.cell? ⟨b2, o2 + i, none⟩ = some (.int .u8 (ys.getD i 0)))
    (wx : ∀ x ∈ xs, 0 ≤ x ∧ x ≤ 255) (wy : ∀ x ∈ ys, 0 ≤ x ∧ x ≤ 255) :
    Calls Try.prog 46 #[.slice (some ⟨b1, o1, none⟩) n c, .slice (some ⟨b2, o2, none⟩) m d] w fun e w' => e = .returned (.bool (hp xs ys)) ∧ w' = w := by
  have key : hp xs ys = (decide (m ≤ n) && (Lib.bytesOf (xs.take m) == Lib.bytesOf ys)) := by
    rw [Bool.eq_iff_iff]
    subst hx; subst hy
    constructor
    · intro h
      have hpre := List.isPrefixOf_iff_prefix.1 h
      have e := List.prefix_iff_eq_take.1 hpre
      have hl := hpre.length_le
      rw [← e]; simp [hl]
    · intro h
      simp only [Bool.and_eq_true, decide_eq_true_eq, beq_iff_eq] at h
      have e := bytesOf_inj (fun x hx => wx x (List.mem_of_mem_take hx)) wy h.2
      exact List.isPrefixOf_iff_prefix.2 (List.prefix_iff_eq_take.2 e.symm)
  rw [key]
  clear key wx wy
  have g2 := run_convert_bytes_arg (P := Try.prog) w 22 5 Try.underlying22 Try.underlying5 b2 o2 m d ys hy hc2 9 Try.underlying9
  have g1 : m ≤ n → (convert 22 9 (.slice (some ⟨b1, o1, none⟩) m c)).run Try.prog w = .ok (.string (strOfNums (xs.take m))) w := fun h =>
    run_convert_bytes_arg (P := Try.prog) w 22 5 Try.underlying22 Try.underlying5 b1 o1 m c (xs.take m) (by simp; omega) (fun i hi => by rw [Lib.getD_take _ _ _ hi]; exact hc1 i (by omega)) 9 Try.underlying9
  clear hc1 hc2
  by_cases h : m ≤ n
  · go_enter Try.func46, Try.ntmps46
    go_wp2_with (go_at_call 47; refine (equal47 _ _ (xs.take m) ys _ (g1 h) g2).mono ?_; rintro e w' ⟨rfl, rfl⟩)
    go_ret
    refine ⟨?_, rfl⟩
    rw [decide_eq_true h, Bool.true_and]
    rfl
  · go_enter Try.func46, Try.ntmps46
    go_wp2
    go_ret
    refine ⟨?_, rfl⟩
    rw [decide_eq_false h, Bool.false_and]
    rfl
end Go.Proofs.Qxb6600513a
