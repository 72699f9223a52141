/-
  THE WALK OF zzBytes_FnReadLocalPartModel.
-/
import Derived.Test.Qxb6002905aCame
namespace Go.Proofs.Qxb6002905a
open Go.RowKit
set_option linter.unusedVariables false

set_option maxHeartbeats 4000000 in
theorem bytes13 (s : ByteArray) (pf : Bool) (a c : Option Addr) (n m ca cc : Nat) (ss ts : List ByteArray) (w : World) (hs : s.size ≤ 9223372036854775807) (h1 : CameS w a n ss) (h2 : CameS w c m ts) :
    Calls Try.prog 13 #[.string s, .bool pf, .slice a n ca, .slice c m cc] w fun e w' => Told e (s.size + n + sumS ss n + m + sumS ts m ≤ 1048576) ∧ w = w' := by
  have H1 : Hid (CameS w a n ss) := h1
  have H2 : Hid (CameS w c m ts) := h2
  have n1 := h1.2.1
  have m1 := h2.2.1
  clear h1 h2
  by_cases hT : s.size ≤ 1048576 ∧ s.size + n ≤ 1048576
  · obtain ⟨t1, t2⟩ := hT
    go_enter Try.func13, Try.ntmps13
    go_wp2
    go_loop [9, 10] (fun z i => ∃ k : Nat, k ≤ n ∧ i = .int .i64 k ∧ z = .int .i64 ((s.size + n + sumS ss k : Nat) : Int) ∧ s.size + n + sumS ss k ≤ 1048576) (fun _ i => n - (intOf i).toNat)
    case atStart => exact ⟨0, Nat.zero_le _, rfl, by rw [sumS_zero]; rfl, by rw [sumS_zero]; omega⟩
    case round =>
      obtain ⟨k, hk, rfl, rfl, hz⟩ := hrel
      by_cases hlt : k < n
      · obtain ⟨b, off, rfl, _, hr⟩ := H1.out.2.2.2 (by omega)
        have hl : k < ss.length := by have := H1.out.1; omega
        have e1 := sumS_succ ss k hl
        have c1 := hr k hl
        have hmem : (ss.getD k ByteArray.empty).size ≤ 9223372036854775807 := by
          rw [List.getD_eq_getElem?_getD, List.getElem?_eq_getElem hl]
          exact H1.out.2.2.1 _ (List.getElem_mem hl)
        generalize ss.getD k ByteArray.empty = t at e1 c1 hmem
        have E1 : Hid (sumS ss (k + 1) = sumS ss k + t.size) := e1
        clear e1 hl hr
        go_wp2
        · go_ret
          exact ⟨told_no rfl, rfl⟩
        · go_ret
          exact ⟨told_no rfl, rfl⟩
        · go_round
          case rel => exact ⟨k + 1, by omega, by go_num, by rw [E1.out]; go_num, by rw [E1.out]; omega⟩
          case measure => simp [intOf]; omega
      · have ek : k = n := by omega
        subst ek
        by_cases hT2 : m ≤ 1048576 ∧ s.size + k + sumS ss k + m ≤ 1048576
        · obtain ⟨t3, t4⟩ := hT2
          go_wp2
          go_loop [9, 11] (fun z i => ∃ q : Nat, q ≤ m ∧ i = .int .i64 q ∧ z = .int .i64 ((s.size + k + sumS ss k + m + sumS ts q : Nat) : Int) ∧ s.size + k + sumS ss k + m + sumS ts q ≤ 1048576) (fun _ i => m - (intOf i).toNat)
          case atStart => exact ⟨0, Nat.zero_le _, rfl, by rw [sumS_zero]; rfl, by rw [sumS_zero]; omega⟩
          case round =>
            obtain ⟨q, hq, rfl, rfl, hz2⟩ := hrel
            by_cases hlt2 : q < m
            · obtain ⟨b, off, rfl, _, hr⟩ := H2.out.2.2.2 (by omega)
              have hl : q < ts.length := by have := H2.out.1; omega
              have e1 := sumS_succ ts q hl
              have c1 := hr q hl
              have hmem : (ts.getD q ByteArray.empty).size ≤ 9223372036854775807 := by
                rw [List.getD_eq_getElem?_getD, List.getElem?_eq_getElem hl]
                exact H2.out.2.2.1 _ (List.getElem_mem hl)
              generalize ts.getD q ByteArray.empty = t at e1 c1 hmem
              have E1 : Hid (sumS ts (q + 1) = sumS ts q + t.size) := e1
              clear e1 hl hr
              go_wp2
              · go_ret
                exact ⟨told_no rfl, rfl⟩
              · go_ret
                exact ⟨told_no rfl, rfl⟩
              · go_round
                case rel => exact ⟨q + 1, by omega, by go_num, by rw [E1.out]; go_num, by rw [E1.out]; omega⟩
                case measure => simp [intOf]; omega
            · have eq : q = m := by omega
              subst eq
              go_wp2
              go_ret
              exact ⟨told_yes rfl (by omega), rfl⟩
        · go_wp2
          all_goals go_ret
          all_goals exact ⟨told_no rfl, rfl⟩
  · go_enter Try.func13, Try.ntmps13
    go_wp2
    all_goals go_ret
    all_goals exact ⟨told_no rfl, rfl⟩
end Go.Proofs.Qxb6002905a
