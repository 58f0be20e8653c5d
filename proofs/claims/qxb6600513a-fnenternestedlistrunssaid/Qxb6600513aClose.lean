/-
  (*writtenScan).close, of a list of a run per item.
-/
import Derived.Test.Qxb6600513aItem
namespace Go.Proofs.Qxb6600513a
open Go.RowKit
set_option linter.unusedVariables false
set_option linter.unusedSimpArgs false

section
variable {w w' : World} {p : Nat → Prop} {S D G : Nat} {pos most : Int} {lv tv gv rv : Value} {ind anchor run earlier : Int} {rpi : Bool}
theorem ScanAt.kept (h : ScanAt w S D pos most lv tv gv) (hk : Kept p w w') (hp : ¬ p S) : ScanAt w' S D pos most lv tv gv := hk.heap h hp
theorem ListAt.kept (h : ListAt w G ind rpi anchor rv run earlier) (hk : Kept p w w') (hp : ¬ p G) : ListAt w' G ind rpi anchor rv run earlier := hk.heap h hp
theorem DataAt.kept (h : DataAt w D) (hk : Kept p w w') (hp : ¬ p D) : DataAt w' D := hk.heap h hp
end

set_option maxHeartbeats 400000 in
theorem close43_nil (S D G : Nat) (pos most ind anchor : Int) (lv gv : Value) (ra : Option Addr) (rn rc : Nat) (w : World) (hS : ScanAt w S D pos most lv (.slice none 0 0) gv) (hL : ListAt w G ind true anchor (.slice ra rn rc) 0 0) :
    Calls Try.prog 43 #[.pointer (some ⟨S, 0, none⟩), .pointer (some ⟨G, 0, none⟩)] w fun e w' => e = .returned (.int .i64 (-1)) ∧ ScanAt w' S D pos most lv (.slice ra rn rc) gv ∧ Kept (fun k => k = S) w w' := by
  have hnil := fun w => Lib.run_eql_slice_nil (P := Try.prog) w 29 3 none 0 0 0 0 Try.underlying29

  have HS : Hid (ScanAt w S D pos most lv (.slice none 0 0) gv) := hS
  have HL : Hid (ListAt w G ind true anchor (.slice ra rn rc) 0 0) := hL
  clear hS hL
  go_enter Try.func43, Try.ntmps43
  go_wp2_with fail
  refine (over44 S G most _ HS.out.c2 HL.out.c5).mono ?_
  rintro e w1 ⟨rfl, hk⟩
  have hS1 := HS.out.kept hk (fun h => h)
  have hL1 := HL.out.kept hk (fun h => h)
  have c6 := hS1.c6
  have f6 := hS1.fr 6
  have c1 := hL1.c1
  have c4 := hL1.c4
  have HS1 : Hid (ScanAt w1 S D pos most lv (.slice none 0 0) gv) := hS1
  clear hS1 hL1
  go_wp2
  go_ret
  exact ⟨rfl, HS1.out.set6 _, Kept.setCell (p := fun k => k = S) (hk.mono fun _ _ h => h.elim) (q := ⟨S, 6, none⟩) (.inl rfl) _⟩

set_option maxHeartbeats 400000 in
theorem close43_set (S D G : Nat) (pos most ind anchor : Int) (lv gv : Value) (ra : Option Addr) (rn rc : Nat) (a : Addr) (n c : Nat) (w : World) (hS : ScanAt w S D pos most lv (.slice (some a) n c) gv) (hL : ListAt w G ind true anchor (.slice ra rn rc) 0 0) :
    Calls Try.prog 43 #[.pointer (some ⟨S, 0, none⟩), .pointer (some ⟨G, 0, none⟩)] w fun e w' => e = .returned (.int .i64 (-1)) ∧ Kept no w w' := by
  have hnil := fun w => Lib.run_eql_slice_nil (P := Try.prog) w 29 3 (some a) n c 0 0 Try.underlying29

  have HS : Hid (ScanAt w S D pos most lv (.slice (some a) n c) gv) := hS
  have HL : Hid (ListAt w G ind true anchor (.slice ra rn rc) 0 0) := hL
  clear hS hL
  go_enter Try.func43, Try.ntmps43
  go_wp2_with fail
  refine (over44 S G most _ HS.out.c2 HL.out.c5).mono ?_
  rintro e w1 ⟨rfl, hk⟩
  have hS1 := HS.out.kept hk (fun h => h)
  have hL1 := HL.out.kept hk (fun h => h)
  have c6 := hS1.c6
  have c1 := hL1.c1
  clear hS1 hL1
  go_wp2
  go_ret
  exact ⟨rfl, hk⟩

/-- Both: the targets behind it. -/
theorem close43_rpi (S D G : Nat) (pos most ind anchor : Int) (lv gv : Value) (ra : Option Addr) (rn rc : Nat) (ta : Option Addr) (n c : Nat) (ht : ta = none → n = 0 ∧ c = 0) (w : World) (hS : ScanAt w S D pos most lv (.slice ta n c) gv) (hL : ListAt w G ind true anchor (.slice ra rn rc) 0 0) :
    Calls Try.prog 43 #[.pointer (some ⟨S, 0, none⟩), .pointer (some ⟨G, 0, none⟩)] w fun e w' => e = .returned (.int .i64 (-1)) ∧ ScanAt w' S D pos most lv (if ta = none then .slice ra rn rc else .slice ta n c) gv ∧ Kept (fun k => k = S) w w' := by
  cases ta with
  | none =>
    obtain ⟨rfl, rfl⟩ := ht rfl
    rw [if_pos rfl]
    exact close43_nil S D G pos most ind anchor lv gv ra rn rc w hS hL
  | some a =>
    rw [if_neg (by simp)]
    refine (close43_set S D G pos most ind anchor lv gv ra rn rc a n c w hS hL).mono ?_
    rintro e w' ⟨rfl, hk⟩
    exact ⟨rfl, hS.kept hk (fun h => h), hk.mono fun _ _ h => h.elim⟩
end Go.Proofs.Qxb6600513a
