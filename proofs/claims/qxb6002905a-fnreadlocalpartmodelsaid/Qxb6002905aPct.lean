/-
  THE WALKS OF lastSinglePercent, zzSinglePct.
-/
import Derived.Test.Qxb6002905aFind
namespace Go.Proofs.Qxb6002905a
open Go.RowKit
set_option linter.unusedVariables false

theorem b37 {b : UInt8} (h : b = 37) : (b.toNat : Int) = 37 := by rw [h]; rfl
theorem b37n {b : UInt8} (h : b ≠ 37) : ((b.toNat : Int) != 37) = true := by
  rw [bne_iff_ne]
  intro h'
  exact h (byte_is (n := 37) (by decide) (beq_iff_eq.2 h'))
theorem b37e {b : UInt8} (h : b ≠ 37) : ((b.toNat : Int) == 37) = false := by
  rw [beq_eq_false_iff_ne]
  intro h'
  exact h (byte_is (n := 37) (by decide) (beq_iff_eq.2 h'))
/-- nothing before it -/
def headOK (s : ByteArray) (m : Nat) (hm : m < s.size) : Prop := m = 0 ∨ (1 ≤ m ∧ ((s[m - 1].toNat : Int) != 37) = true)
theorem sing_cases (s : ByteArray) (m : Nat) (hm : m < s.size) :
    (sing s m = false ∧ ((s[m].toNat : Int) == 37) = false) ∨
    (sing s m = false ∧ (s[m].toNat : Int) = 37 ∧ 1 ≤ m ∧ (s[m - 1].toNat : Int) = 37) ∨
    (sing s m = false ∧ (s[m].toNat : Int) = 37 ∧ headOK s m hm ∧ ∃ h : m + 1 < s.size, (s[m + 1].toNat : Int) = 37) ∨
    (sing s m = true ∧ (s[m].toNat : Int) = 37 ∧ headOK s m hm ∧ m + 1 = s.size) ∨
    (sing s m = true ∧ (s[m].toNat : Int) = 37 ∧ headOK s m hm ∧ ∃ h : m + 1 < s.size, ((s[m + 1].toNat : Int) != 37) = true) := by
  have e0 : bat s m = some s[m] := bat_at s m hm
  by_cases h1 : s[m] = 37
  · have g1 : decide (bat s m = some 37) = true := by rw [e0, h1]; simp
    by_cases h2 : 1 ≤ m ∧ s[m - 1] = 37
    · refine Or.inr (Or.inl ⟨?_, b37 h1, h2.1, b37 h2.2⟩)
      have g2 : (decide (m = 0) || decide (bat s (m - 1) ≠ some 37)) = false := by
        rw [bat_at s (m - 1) (by omega), h2.2, decide_eq_false (by omega : ¬ m = 0)]; simp
      unfold sing; rw [g1, g2]; rfl
    · have hh : headOK s m hm := by
        by_cases h0 : m = 0
        · exact Or.inl h0
        · exact Or.inr ⟨by omega, b37n (fun h => h2 ⟨by omega, h⟩)⟩
      have g2 : (decide (m = 0) || decide (bat s (m - 1) ≠ some 37)) = true := by
        by_cases h0 : m = 0
        · rw [decide_eq_true h0]; rfl
        · have : bat s (m - 1) ≠ some 37 := by
            rw [bat_at s (m - 1) (by omega)]
            intro h
            exact h2 ⟨by omega, Option.some.inj h⟩
          rw [decide_eq_true this, Bool.or_true]
      by_cases h3 : m + 1 < s.size
      · by_cases h4 : s[m + 1] = 37
        · refine Or.inr (Or.inr (Or.inl ⟨?_, b37 h1, hh, h3, b37 h4⟩))
          have g3 : decide (bat s (m + 1) ≠ some 37) = false := by rw [bat_at s (m + 1) h3, h4]; simp
          unfold sing; rw [g1, g2, g3]; rfl
        · refine Or.inr (Or.inr (Or.inr (Or.inr ⟨?_, b37 h1, hh, h3, b37n h4⟩)))
          have g3 : decide (bat s (m + 1) ≠ some 37) = true := by
            rw [bat_at s (m + 1) h3, decide_eq_true_iff]
            intro h
            exact h4 (Option.some.inj h)
          unfold sing; rw [g1, g2, g3]; rfl
      · refine Or.inr (Or.inr (Or.inr (Or.inl ⟨?_, b37 h1, hh, by omega⟩)))
        have g3 : decide (bat s (m + 1) ≠ some 37) = true := by
          rw [decide_eq_true_iff]
          intro h
          exact h3 (bat_lt h)
        unfold sing; rw [g1, g2, g3]; rfl
  · refine Or.inl ⟨?_, b37e h1⟩
    have g1 : decide (bat s m = some 37) = false := by
      rw [e0, decide_eq_false_iff_not]
      intro h
      exact h1 (Option.some.inj h)
    unfold sing; rw [g1]; rfl

set_option maxHeartbeats 2000000 in
theorem sing22 (s : ByteArray) (m : Nat) (hm : m < s.size) (hs : s.size ≤ 4194304) (w : World) :
    Calls Try.prog 22 #[.string s, .int .i64 m] w fun e w' => e = .returned (.bool (sing s m)) ∧ w = w' := by
  rcases sing_cases s m hm with ⟨h, h1⟩ | ⟨h, h1, h2, h3⟩ | ⟨h, h1, h2, h3, h4⟩ | ⟨h, h1, h2, h3⟩ | ⟨h, h1, h2, h3, h4⟩
  · have H : Hid (sing s m = false) := h
    clear h
    go_enter Try.func22, Try.ntmps22
    go_wp2
    go_ret
    exact ⟨by rw [H.out]; rfl, rfl⟩
  · have H : Hid (sing s m = false) := h
    clear h
    go_enter Try.func22, Try.ntmps22
    go_wp2
    go_ret
    exact ⟨by rw [H.out]; rfl, rfl⟩
  · have H : Hid (sing s m = false) := h
    clear h
    have g3 : (((m : Int) + 1) == (s.size : Int)) = false := by rw [beq_eq_false_iff_ne]; omega
    rcases h2 with h2 | ⟨h2, h5⟩
    · subst h2
      have h4' : (s[1].toNat : Int) = 37 := h4
      have g3' : ((1 : Int) == (s.size : Int)) = false := g3
      clear h4 g3
      go_enter Try.func22, Try.ntmps22
      go_wp2
      go_ret
      exact ⟨by rw [H.out]; rfl, rfl⟩
    · have g0 : ((m : Int) == 0) = false := by rw [beq_eq_false_iff_ne]; omega
      go_enter Try.func22, Try.ntmps22
      go_wp2
      go_ret
      exact ⟨by rw [H.out]; rfl, rfl⟩
  · have H : Hid (sing s m = true) := h
    clear h
    have g3 : (((m : Int) + 1) == (s.size : Int)) = true := by rw [beq_iff_eq]; omega
    rcases h2 with h2 | ⟨h2, h5⟩
    · subst h2
      have g3' : ((1 : Int) == (s.size : Int)) = true := g3
      clear h3 g3
      go_enter Try.func22, Try.ntmps22
      go_wp2
      go_ret
      exact ⟨by rw [H.out]; rfl, rfl⟩
    · have g0 : ((m : Int) == 0) = false := by rw [beq_eq_false_iff_ne]; omega
      clear h3
      go_enter Try.func22, Try.ntmps22
      go_wp2
      go_ret
      exact ⟨by rw [H.out]; rfl, rfl⟩
  · have H : Hid (sing s m = true) := h
    clear h
    have g3 : (((m : Int) + 1) == (s.size : Int)) = false := by rw [beq_eq_false_iff_ne]; omega
    rcases h2 with h2 | ⟨h2, h5⟩
    · subst h2
      have h4' : ((s[1].toNat : Int) != 37) = true := h4
      have g3' : ((1 : Int) == (s.size : Int)) = false := g3
      clear h4 g3
      go_enter Try.func22, Try.ntmps22
      go_wp2
      go_ret
      exact ⟨by rw [H.out]; rfl, rfl⟩
    · have g0 : ((m : Int) == 0) = false := by rw [beq_eq_false_iff_ne]; omega
      go_enter Try.func22, Try.ntmps22
      go_wp2
      go_ret
      exact ⟨by rw [H.out]; rfl, rfl⟩

set_option maxHeartbeats 4000000 in
theorem last31 (s : ByteArray) (l r : Nat) (hl : l ≤ r) (hr : r ≤ s.size) (hs : s.size ≤ 4194304) (w : World) :
    Calls Try.prog 31 #[.string s, .int .i64 l, .int .i64 r] w fun e w' => e = .returned (.tuple #[.int .i64 (lpI s l r), .string (lpN s l r)]) ∧ w = w' := by
  go_enter Try.func31, Try.ntmps31
  go_wp2
  go_loop [8, 9, 10] (fun i _ _ => ∃ k : Nat, l ≤ k ∧ k ≤ r ∧ i = .int .i64 ((k : Int) - 1) ∧ Hid (lpO s l r = lpO s l k)) (fun i _ _ => (intOf i + 1).toNat)
  case atStart => exact ⟨r, hl, Nat.le_refl _, rfl, rfl⟩
  case round =>
    obtain ⟨k, hk1, hk, rfl, H⟩ := hrel
    by_cases hlt : k ≤ l
    · have e2 : Hid (lpI s l r = -1 ∧ lpN s l r = ⟨#[]⟩) := lp_none (H.out.trans (lpO_below s l k hlt))
      clear H
      go_wp2
      go_ret2
      exact ⟨by rw [e2.out.1, e2.out.2]; rfl, rfl⟩
    · obtain ⟨m, rfl⟩ : ∃ m, k = m + 1 := ⟨k - 1, by omega⟩
      have hml : l ≤ m := by omega
      have hms : m < s.size := by omega
      have em : (((m + 1 : Nat) : Int) - 1) = (m : Int) := by omega
      rw [em]
      clear em
      have hnm : (s.extract (m + 1) r).size ≤ 4194304 := by rw [ByteArray.size_extract]; omega
      rcases sing_cases s m hms with ⟨h, h1⟩ | ⟨h, h1, h2, h3⟩ | ⟨h, h1, h2, h3, h4⟩ | ⟨h, h1, h2, h3⟩ | ⟨h, h1, h2, h3, h4⟩
      · have H2 : Hid (lpO s l r = lpO s l m) := H.out.trans (lpO_miss s l m hml h)
        clear h
        go_wp2
        go_round
        case rel => exact ⟨m, by omega, by omega, rfl, H2⟩
        case measure => simp [intOf]
      · have H2 : Hid (lpO s l r = lpO s l m) := H.out.trans (lpO_miss s l m hml h)
        clear h
        have g0 : ((m : Int) == 0) = false := by rw [beq_eq_false_iff_ne]; omega
        go_wp2
        go_round
        case rel => exact ⟨m, by omega, by omega, rfl, H2⟩
        case measure => simp [intOf]
      · have H2 : Hid (lpO s l r = lpO s l m) := H.out.trans (lpO_miss s l m hml h)
        clear h
        have g3 : (((m : Int) + 1) == (s.size : Int)) = false := by rw [beq_eq_false_iff_ne]; omega
        rcases h2 with h2 | ⟨h2, h5⟩
        · subst h2
          have h4' : (s[1].toNat : Int) = 37 := h4
          have g3' : ((1 : Int) == (s.size : Int)) = false := g3
          clear h4 g3
          go_wp2
          go_round
          case rel => exact ⟨0, by omega, by omega, rfl, H2⟩
          case measure => simp [intOf]
        · have g0 : ((m : Int) == 0) = false := by rw [beq_eq_false_iff_ne]; omega
          go_wp2
          go_round
          case rel => exact ⟨m, by omega, by omega, rfl, H2⟩
          case measure => simp [intOf]
      · have H2 : Hid (lpO s l r = some m) := H.out.trans (lpO_hit s l m hml h)
        clear h
        have g3 : (((m : Int) + 1) == (s.size : Int)) = true := by rw [beq_iff_eq]; omega
        rcases h2 with h2 | ⟨h2, h5⟩
        · subst h2
          have g3' : ((1 : Int) == (s.size : Int)) = true := g3
          clear h3 g3
          cases hok : hopOK (s.extract (0 + 1) r).data.toList with
          | true =>
            have HK : Hid (hopOK (s.extract (0 + 1) r).data.toList = true) := hok
            have e2 := lp_some H2.out
            rw [hok] at e2
            have E2 : Hid (lpI s l r = ((0 : Nat) : Int) ∧ lpN s l r = s.extract (0 + 1) r) := e2
            clear e2 hok
            go_wp2_with (go_at_call 35; go_must (refine (hop35 (s.extract (0 + 1) r) hnm _).mono ?_; rintro e w' ⟨rfl, rfl⟩; rw [HK.out]))
            go_ret2
            exact ⟨by rw [E2.out.1, E2.out.2]; rfl, rfl⟩
          | false =>
            have HK : Hid (hopOK (s.extract (0 + 1) r).data.toList = false) := hok
            have e2 := lp_some H2.out
            rw [hok] at e2
            have E2 : Hid (lpI s l r = ((0 : Nat) : Int) ∧ lpN s l r = ⟨#[]⟩) := e2
            clear e2 hok
            go_wp2_with (go_at_call 35; go_must (refine (hop35 (s.extract (0 + 1) r) hnm _).mono ?_; rintro e w' ⟨rfl, rfl⟩; rw [HK.out]))
            go_ret2
            exact ⟨by rw [E2.out.1, E2.out.2]; rfl, rfl⟩
        · have g0 : ((m : Int) == 0) = false := by rw [beq_eq_false_iff_ne]; omega
          clear h3
          cases hok : hopOK (s.extract (m + 1) r).data.toList with
          | true =>
            have HK : Hid (hopOK (s.extract (m + 1) r).data.toList = true) := hok
            have e2 := lp_some H2.out
            rw [hok] at e2
            have E2 : Hid (lpI s l r = ((m : Nat) : Int) ∧ lpN s l r = s.extract (m + 1) r) := e2
            clear e2 hok
            go_wp2_with (go_at_call 35; go_must (refine (hop35 (s.extract (m + 1) r) hnm _).mono ?_; rintro e w' ⟨rfl, rfl⟩; rw [HK.out]))
            go_ret2
            exact ⟨by rw [E2.out.1, E2.out.2]; rfl, rfl⟩
          | false =>
            have HK : Hid (hopOK (s.extract (m + 1) r).data.toList = false) := hok
            have e2 := lp_some H2.out
            rw [hok] at e2
            have E2 : Hid (lpI s l r = ((m : Nat) : Int) ∧ lpN s l r = ⟨#[]⟩) := e2
            clear e2 hok
            go_wp2_with (go_at_call 35; go_must (refine (hop35 (s.extract (m + 1) r) hnm _).mono ?_; rintro e w' ⟨rfl, rfl⟩; rw [HK.out]))
            go_ret2
            exact ⟨by rw [E2.out.1, E2.out.2]; rfl, rfl⟩
      · have H2 : Hid (lpO s l r = some m) := H.out.trans (lpO_hit s l m hml h)
        clear h
        have g3 : (((m : Int) + 1) == (s.size : Int)) = false := by rw [beq_eq_false_iff_ne]; omega
        rcases h2 with h2 | ⟨h2, h5⟩
        · subst h2
          have h4' : ((s[1].toNat : Int) != 37) = true := h4
          have g3' : ((1 : Int) == (s.size : Int)) = false := g3
          clear h4 g3
          cases hok : hopOK (s.extract (0 + 1) r).data.toList with
          | true =>
            have HK : Hid (hopOK (s.extract (0 + 1) r).data.toList = true) := hok
            have e2 := lp_some H2.out
            rw [hok] at e2
            have E2 : Hid (lpI s l r = ((0 : Nat) : Int) ∧ lpN s l r = s.extract (0 + 1) r) := e2
            clear e2 hok
            go_wp2_with (go_at_call 35; go_must (refine (hop35 (s.extract (0 + 1) r) hnm _).mono ?_; rintro e w' ⟨rfl, rfl⟩; rw [HK.out]))
            go_ret2
            exact ⟨by rw [E2.out.1, E2.out.2]; rfl, rfl⟩
          | false =>
            have HK : Hid (hopOK (s.extract (0 + 1) r).data.toList = false) := hok
            have e2 := lp_some H2.out
            rw [hok] at e2
            have E2 : Hid (lpI s l r = ((0 : Nat) : Int) ∧ lpN s l r = ⟨#[]⟩) := e2
            clear e2 hok
            go_wp2_with (go_at_call 35; go_must (refine (hop35 (s.extract (0 + 1) r) hnm _).mono ?_; rintro e w' ⟨rfl, rfl⟩; rw [HK.out]))
            go_ret2
            exact ⟨by rw [E2.out.1, E2.out.2]; rfl, rfl⟩
        · have g0 : ((m : Int) == 0) = false := by rw [beq_eq_false_iff_ne]; omega
          cases hok : hopOK (s.extract (m + 1) r).data.toList with
          | true =>
            have HK : Hid (hopOK (s.extract (m + 1) r).data.toList = true) := hok
            have e2 := lp_some H2.out
            rw [hok] at e2
            have E2 : Hid (lpI s l r = ((m : Nat) : Int) ∧ lpN s l r = s.extract (m + 1) r) := e2
            clear e2 hok
            go_wp2_with (go_at_call 35; go_must (refine (hop35 (s.extract (m + 1) r) hnm _).mono ?_; rintro e w' ⟨rfl, rfl⟩; rw [HK.out]))
            go_ret2
            exact ⟨by rw [E2.out.1, E2.out.2]; rfl, rfl⟩
          | false =>
            have HK : Hid (hopOK (s.extract (m + 1) r).data.toList = false) := hok
            have e2 := lp_some H2.out
            rw [hok] at e2
            have E2 : Hid (lpI s l r = ((m : Nat) : Int) ∧ lpN s l r = ⟨#[]⟩) := e2
            clear e2 hok
            go_wp2_with (go_at_call 35; go_must (refine (hop35 (s.extract (m + 1) r) hnm _).mono ?_; rintro e w' ⟨rfl, rfl⟩; rw [HK.out]))
            go_ret2
            exact ⟨by rw [E2.out.1, E2.out.2]; rfl, rfl⟩
end Go.Proofs.Qxb6002905a
