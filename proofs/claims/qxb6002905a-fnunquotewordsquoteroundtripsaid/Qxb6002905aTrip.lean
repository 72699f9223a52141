/-
  THE WALK OF FnUnquoteWordsQuoteRoundTrip.
-/
import Derived.Test.Qxb6002905aUnqw
import Derived.Test.Qxb6002905aQuot
import Derived.Deep.RegionWith
namespace Go.Proofs.Qxb6002905a
open Go.RowKit
set_option linter.unusedVariables false

/-! ### FnUnquoteWordsQuoteRoundTrip -/
set_option maxHeartbeats 400000 in
theorem zz10 (a0 a1 a2 : ByteArray) (w : World) (hT : a0.size + a1.size + a2.size ≤ 1048576) :
    Calls Try.prog 10 #[.string a0, .string a1, .string a2] w fun e w' => e = .returned (.bool true) ∧ w = w' := by
  go_enter Try.func10, Try.ntmps10
  go_wp2
  go_ret
  exact ⟨rfl, rfl⟩

theorem has_call (s : ByteArray) (c : UInt8) (hs : s.size ≤ maxLen) (w : World) :
    Calls Try.prog 11 #[.string s, .int .u8 c.toNat] w fun e w' => e = .returned (.bool (has s.data.toList c)) ∧ w = w' := by
  refine (hasByte_any s c hs w).mono ?_
  rintro e w' ⟨rfl, rfl⟩
  exact ⟨rfl, rfl⟩
theorem not_of_has {l : List UInt8} {c : UInt8} (h : has l c = false) : c ∉ l := by simpa [has] using h
/-- the whole local part -/
def tripB (a m b : ByteArray) : ByteArray := a ++ ⟨(quoted m).toArray⟩ ++ b
theorem tripB_data (a m b : ByteArray) : (tripB a m b).data.toList = a.data.toList ++ 34 :: (Unq.quo m.data.toList ++ 34 :: b.data.toList) := by
  unfold tripB quoted
  simp
theorem tripB_size (a m b : ByteArray) : (tripB a m b).size ≤ a.size + (2 * m.size + 2) + b.size := by
  rw [Lib.size_eq, tripB_data]
  have := quo_len m.data.toList
  have h1 := Lib.size_eq a
  have h2 := Lib.size_eq m
  have h3 := Lib.size_eq b
  simp only [List.length_append, List.length_cons]
  omega
theorem trip_eq (a m b : ByteArray) : (⟨(a.data.toList ++ (m.data.toList ++ b.data.toList)).toArray⟩ : ByteArray) = a ++ m ++ b := by
  rw [← Lib.mk_data (a ++ m ++ b)]
  congr 2
  simp

set_option maxHeartbeats 1000000 in
theorem walk4 (a0 a1 a2 : ByteArray) (w0 : a0.size ≤ maxLen) (w1 : a1.size ≤ maxLen) (w2 : a2.size ≤ maxLen) (w : World) :
    Calls Try.prog 4 #[.string a0, .string a1, .string a2] w fun e w' => e = .returned (.bool true) ∧ Below w.heap.size w w' := by
  by_cases hT : a0.size + a1.size + a2.size ≤ 1048576
  · by_cases hS : a0.size ≤ 262144 ∧ a1.size ≤ 262144 ∧ a2.size ≤ 262144
    · obtain ⟨s0, s1, s2⟩ := hS
      cases h0 : has a0.data.toList 34 with
      | true =>
        have hp := w0
        clear w0 w1 w2
        go_enter Try.func4, Try.ntmps4
        go_wp2_with (first | (go_at_call 10; refine (zz10 _ _ _ _ hT).mono ?_; rintro e w' ⟨rfl, rfl⟩) | (go_at_call 11; go_must (refine (has_call _ 34 hp _).mono ?_; rintro e w' ⟨rfl, rfl⟩)))
        all_goals go_ret
        all_goals exact ⟨rfl, Below.refl _ _⟩
      | false =>
        cases h2 : has a2.data.toList 34 with
        | true =>
          go_enter Try.func4, Try.ntmps4
          go_wp2_with (first | (go_at_call 10; refine (zz10 _ _ _ _ hT).mono ?_; rintro e w' ⟨rfl, rfl⟩) | (go_at_call_of 11 (Value.string a0); go_must (refine (has_call a0 34 w0 _).mono ?_; rintro e w' ⟨rfl, rfl⟩)) | (go_at_call_of 11 (Value.string a2); go_must (refine (has_call a2 34 w2 _).mono ?_; rintro e w' ⟨rfl, rfl⟩)))
          all_goals go_ret
          all_goals exact ⟨rfl, Below.refl _ _⟩
        | false =>
          have HM : Hid (Unq.mdl false (tripB a0 a1 a2).data.toList = some (a0.data.toList ++ (a1.data.toList ++ a2.data.toList))) := by
            show Unq.mdl false _ = _
            rw [tripB_data]
            exact Unq.trip _ _ _ (not_of_has h0) (not_of_has h2)
          have hsz := tripB_size a0 a1 a2
          have hq : (quoted a1).length ≤ 2 * a1.size + 2 := by
            have := quo_len a1.data.toList
            have e := Lib.size_eq a1
            simp only [quoted, List.length_cons, List.length_append, List.length_nil]
            omega
          have HE : Hid ((⟨(a0.data.toList ++ (a1.data.toList ++ a2.data.toList)).toArray⟩ : ByteArray) = a0 ++ a1 ++ a2) := trip_eq a0 a1 a2
          go_enter Try.func4, Try.ntmps4
          go_wp2_with (first | (go_at_call 10; refine (zz10 _ _ _ _ hT).mono ?_; rintro e w' ⟨rfl, rfl⟩) | (go_at_call_of 11 (Value.string a0); go_must (refine (has_call a0 34 w0 _).mono ?_; rintro e w' ⟨rfl, rfl⟩)) | (go_at_call_of 11 (Value.string a2); go_must (refine (has_call a2 34 w2 _).mono ?_; rintro e w' ⟨rfl, rfl⟩)) | (go_at_call 12; go_must (refine (quote_any a1 s1 _).mono ?_; rintro e wq ⟨rfl, hbq⟩)) | (go_at_call 9; go_must (refine (zzwords_any (tripB a0 a1 a2) _ (by omega) HM.out _).mono ?_; rintro e wz ⟨rfl, hbz⟩; rw [HE.out])))
          go_ret
          exact ⟨rfl, hbq.trans (hbz.mono hbq.size)⟩
    · have hp := w0
      clear w0 w1 w2
      go_enter Try.func4, Try.ntmps4
      go_wp2_with (first | (go_at_call 10; refine (zz10 _ _ _ _ hT).mono ?_; rintro e w' ⟨rfl, rfl⟩))
      all_goals go_ret
      all_goals exact ⟨rfl, Below.refl _ _⟩
  · unfold maxLen at w0 w1 w2
    go_enter Try.func4, Try.ntmps4
    go_wp2
    all_goals go_ret
    all_goals exact ⟨rfl, Below.refl _ _⟩
end Go.Proofs.Qxb6002905a
