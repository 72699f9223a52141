/-
  THE WALK OF FnReadLocalPartBangPath, WITH NO NAMES.
-/
import Derived.Test.Qxb6002905aBang
namespace Go.Proofs.Qxb6002905a
open Go.RowKit
set_option linter.unusedVariables false

set_option maxHeartbeats 8000000 in
theorem bang6_zero (a : Option Addr) (cap : Nat) (u : ByteArray) (pf : Bool) (w : World) (hu : u.size ≤ 9223372036854775807) :
    Calls Try.prog 6 #[.slice a 0 cap, .string u, .bool pf] w fun e w' => e = .returned (.bool true) ∧ Below w.heap.size w w' := by
  obtain ⟨i0, hi, hz0, hz1, hz2⟩ := info_parts info5
  go_enter Try.func6, Try.ntmps6
  go_wp2_with fail
  refine (bytes17_zero a cap u pf _ hu).mono ?_
  rintro e w' ⟨⟨x, rfl, hx⟩, rfl⟩
  cases x with
  | false =>
    clear hx
    go_wp2
    go_ret
    exact ⟨rfl, Below.refl _ _⟩
  | true =>
    have hT := hx rfl
    clear hx
    by_cases t2 : u.size ≤ 65536
    · go_wp2_with fail
      refine (sb14_zero a cap _).mono ?_
      rintro e w' ⟨rfl, rfl⟩
      go_wp2_with fail
      refine wp_loop_rounds 1 ?_
      rw [rounds_succ]
      by_cases hu0 : 0 < u.size
      · have ue := ne_empty u hu0
        go_wp2_with fail
        refine (has_call2 u 33 (by omega) _).mono ?_
        rintro e w' ⟨rfl, rfl⟩
        cases hb1 : has u.data.toList 33 with
        | true =>
          go_wp2
          go_ret
          exact ⟨rfl, Below.refl _ _⟩
        | false =>
          have E1 : Hid (has u.data.toList 33 = false) := hb1
          clear hb1
          go_wp2_with fail
          refine (has_call2 u 37 (by omega) _).mono ?_
          rintro e w' ⟨rfl, rfl⟩
          cases hb2 : has u.data.toList 37 with
          | true =>
            go_wp2
            go_ret
            exact ⟨rfl, Below.refl _ _⟩
          | false =>
            obtain ⟨pl1, pl2⟩ := path_law [] u pf (fun m hm => absurd hm (by simp)) hu0 E1.out hb2
            have PL1 : Hid (hopsB (pathB [] u) pf = []) := pl1
            have PL2 : Hid (leftB (pathB [] u) pf = u) := pl2
            have PS : Hid ((pathB [] u).size = u.size) := by have := pathB_size [] u; show _ = _; simpa [sumS] using this
            clear pl1 pl2 hb2 E1
            go_wp2_with fail
            refine (sb14_zero a cap _).mono ?_
            rintro e w' ⟨rfl, rfl⟩
            go_wp2_with (at_make; go_must (refine wpList_make_own _ rfl _ _ 39 rfl w.heap.size 5 i0 (.int .u8 0) 1 Try.underlying39 hi hz0 hz1 .i64 .i64 _ u.size rfl rfl (by omega) (by rw [hz2]; omega) (by unfold maxLen; omega) (Nat.le_refl _) ?_; intro w1 hown1 hg1))
            have hb1 : Below w.heap.size w w1 := (Below.refl _ _).grown hg1 (Nat.le_refl _) (by simp)
            have HO : Hid (OwnB w1 w.heap.size (.slice (some ⟨w.heap.size, 0, none⟩) 0 u.size) []) := hown1
            clear hg1 hown1
            have hsz := hb1.size
            refine wp_loop_rounds 1 ?_
            rw [rounds_succ]
            go_wp2_with (at_builtin; go_must (refine Lib.wpList_append_own_string _ rfl (.tmp 75) (.tmp 76) 39 9 rfl w.heap.size 5 i0 Try.underlying39 Try.underlying9 hi hz0 hz1 hz2 _ _ _ rfl HO.out u rfl (by unfold maxLen; simp; omega) (by simp; omega) (by omega) ?_; intro v1 w3 hown3 hgrow3 _; obtain ⟨S1, S2⟩ := own_str HO.out hb1 (Nat.le_refl _) hown3 hgrow3; have hcv := conv_own S1; clear hown3 hgrow3))
            refine (read15 (pathB [] u) pf (.slice none 0 0) [] w.heap.size _ (by rw [PS.out]; omega) (by simp) (by have := S2.size; omega) (World.ownsRow_nil _ _ _ _)).mono ?_
            rintro e w5 ⟨v, rfl, hv, hb5⟩
            rw [PL2.out]
            rw [PL1.out, List.nil_append] at hv
            obtain ⟨ao, cap5, rfl⟩ : ∃ ao cap5, v = .slice ao 0 cap5 := by
              unfold OwnH at hv
              rcases hv.2 with ⟨h0, _⟩ | ⟨g, cap5, cur, hv2, _⟩
              · exact ⟨_, _, h0⟩
              · exact ⟨_, _, hv2⟩
            have B5 : Below w.heap.size w w5 := S2.trans hb5
            clear S1 S2 hcv hb5 HO hv
            go_wp2_with fail
            refine wp_loop_rounds 1 ?_
            rw [rounds_succ]
            go_wp2
            go_ret
            exact ⟨rfl, B5⟩
      · have ue := is_empty u hu0
        go_wp2
        go_ret
        exact ⟨rfl, Below.refl _ _⟩
    · go_wp2
      all_goals go_ret
      all_goals exact ⟨rfl, Below.refl _ _⟩
end Go.Proofs.Qxb6002905a
