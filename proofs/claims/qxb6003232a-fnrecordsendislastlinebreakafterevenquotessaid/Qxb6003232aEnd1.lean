/-
  THE WALK OF FnRecordsEndIsLastLineBreakAfterEvenQuotes.
-/
import Derived.Test.Qxb6003232aRecw
namespace Go.Proofs.Qxb6003232a
open Go.RowKit
set_option linter.unusedVariables false

set_option maxHeartbeats 400000 in
theorem zz28 (a : Option Addr) (n cap : Nat) (w : World) (hT : n ≤ 1048576) :
    Calls Try.prog 28 #[.slice a n cap] w fun e w' => e = .returned (.bool true) ∧ w = w' := by
  go_enter Try.func28, Try.ntmps28
  go_wp2
  go_ret
  exact ⟨rfl, rfl⟩

set_option maxHeartbeats 1000000 in
theorem end1_row (x : Addr) (n cap : Nat) (zs : List Int) (w : World) (h : Came w x n zs) (hcap : n ≤ cap) (hmax : cap ≤ maxLen) :
    Calls Try.prog 6 #[.slice (some x) n cap] w fun e w' => e = .returned (.bool true) ∧ Below w.heap.size w w' := by
  unfold maxLen at hmax
  by_cases hT : n ≤ 1048576
  · have H : Hid (Came w x n zs) := h
    clear h
    go_enter Try.func6, Try.ntmps6
    go_wp2_with (first
      | (go_at_call 28; refine (zz28 _ _ _ _ hT).mono ?_; rintro e w' ⟨rfl, rfl⟩)
      | (go_at_call 29; go_must (refine (clone29_any x n cap zs _ H.out hcap hT).mono ?_; rintro e w1 ⟨rfl, hF, hb1⟩; have R1 : Hid (RowB w1 w.heap.size zs) := hF.row H.out.2.1; have L1 := hF.lt))
      | (go_at_call 30; go_must (refine (rec30 w.heap.size n n zs _ L1 R1.out H.out.1 (Nat.le_refl _) hT).mono ?_; rintro e w2 ⟨rfl, hb2⟩; have R2 : Hid (RowB w2 w.heap.size zs) := R1.out.below L1 hb2))
      | (go_at_call 31; go_must (refine (mod31 w.heap.size n n zs _ R2.out H.out.1 (Nat.le_refl _) hT).mono ?_; rintro e w3 ⟨rfl, rfl⟩)))
    go_ret
    exact ⟨rfl, hb1.trans (hb2.mono hb1.size)⟩
  · go_enter Try.func6, Try.ntmps6
    go_wp2
    all_goals go_ret
    all_goals exact ⟨rfl, Below.refl _ _⟩

set_option maxHeartbeats 1000000 in
theorem end1_nil (w : World) :
    Calls Try.prog 6 #[.slice none 0 0] w fun e w' => e = .returned (.bool true) ∧ Below w.heap.size w w' := by
  go_enter Try.func6, Try.ntmps6
  go_wp2_with (first
    | (go_at_call 28; refine (zz28 _ _ _ _ (by omega)).mono ?_; rintro e w' ⟨rfl, rfl⟩)
    | (go_at_call 29; refine (clone29_nil _).mono ?_; rintro e w' ⟨rfl, rfl⟩)
    | (go_at_call 30; refine (rec30_nil _).mono ?_; rintro e w2 ⟨rfl, hb2⟩)
    | (go_at_call 31; refine (mod31_nil _).mono ?_; rintro e w3 ⟨rfl, rfl⟩))
  go_ret
  exact ⟨rfl, hb2⟩
end Go.Proofs.Qxb6003232a
