/-
  THE WALK OF zzHopOK: it answers 'hopOK'.
-/
import Derived.Test.Qxb6002905aHop
namespace Go.Proofs.Qxb6002905a
open Go.RowKit
set_option linter.unusedVariables false

set_option maxHeartbeats 4000000 in
theorem hop21_lit (h : ByteArray) (h0 : 0 < h.size) (e : h[0] = 91) (hs : h.size ≤ 4194304) (w : World) :
    Calls Try.prog 21 #[.string h] w fun x w' => x = .returned (.bool (hopOK h.data.toList)) ∧ w = w' := by
  have hne := ne_empty h h0
  have e0 : (h[0].toNat : Int) = 91 := by rw [e]; rfl
  by_cases h3 : 3 ≤ h.size
  · by_cases hb : h[h.size - 1] = 93
    · have HG : Hid (hopOK h.data.toList = ((h.data.toList.drop 1).take (h.size - 2)).all litC) := lit_good h h0 e h3 (fun _ => hb)
      have e1 : (h[h.size - 1].toNat : Int) = 93 := by rw [hb]; rfl
      clear e hb
      go_enter Try.func21, Try.ntmps21
      go_wp2
      go_loop [3, 4] (fun i _ => ∃ k : Nat, 1 ≤ k ∧ k ≤ h.size - 1 ∧ i = .int .i64 k ∧ Hid (((h.data.toList.drop 1).take (k - 1)).all litC = true)) (fun i _ => h.size - (intOf i).toNat)
      case atStart => exact ⟨1, by omega, by omega, rfl, by show _ = true; simp⟩
      case round =>
        clear e0 e1 hne
        obtain ⟨k, hk1, hk, rfl, H⟩ := hrel
        by_cases hlt : k < h.size - 1
        · go_wp2
          rotate_left 3
          · have hg : litC h[k] = true := lit_ok (by assumption)
            have H2 := mid_step h litC k (by omega) hk1 H.out hg
            go_round
            case rel => exact ⟨k + 1, by omega, by omega, by go_num, H2⟩
            case measure => simp [intOf]; omega
          all_goals
            have hb : litC h[k] = false := by first | exact lit_lt (by assumption) | exact lit_gt (by assumption) | exact lit_91 (by assumption) | exact lit_93 (by assumption) | exact lit_any (by assumption)
            have hf := HG.out.trans (mid_bad h litC k hk1 hlt hb)
            go_ret
            exact ⟨by rw [hf]; rfl, rfl⟩
        · have e : Hid (hopOK h.data.toList = true) := by
            have ek : k - 1 = h.size - 2 := by omega
            have := H.out
            rw [ek] at this
            exact HG.out.trans this
          go_wp2
          go_ret
          exact ⟨by rw [e.out]; rfl, rfl⟩
    · have HF : Hid (hopOK h.data.toList = false) := lit_last_bad h h0 e (fun _ => hb)
      have e1 : ((h[h.size - 1].toNat : Int) != 93) = true := by
        rw [bne_iff_ne]
        intro h'
        exact hb (byte_is (n := 93) (by decide) (beq_iff_eq.2 h'))
      clear e hb
      go_enter Try.func21, Try.ntmps21
      go_wp2
      go_ret
      exact ⟨by rw [HF.out]; rfl, rfl⟩
  · have HH : Hid (hopOK h.data.toList = false) := by
      show hopOK _ = false
      rw [hopOK_lit h h0 e, decide_eq_false h3]
      rfl
    clear e
    go_enter Try.func21, Try.ntmps21
    go_wp2
    go_ret
    exact ⟨by rw [HH.out]; rfl, rfl⟩

theorem hz_no {b : UInt8} (h : (!(b.toNat : Int) == 95) = true) (hr : ¬ ((97 ≤ (b.toNat : Int) ∧ (b.toNat : Int) ≤ 122) ∨ (65 ≤ (b.toNat : Int) ∧ (b.toNat : Int) ≤ 90) ∨ (48 ≤ (b.toNat : Int) ∧ (b.toNat : Int) ≤ 57) ∨ (b.toNat : Int) = 45 ∨ (b.toNat : Int) = 46)) : hopC b = false := by
  simp only [Bool.not_eq_true', beq_eq_false_iff_ne] at h
  unfold hopC; rw [decide_eq_false_iff_not]; omega
theorem hz_no6 {b : UInt8} (h : ((((((!decide ((b.toNat : Int) ≤ 122)) = true) ∧ (!decide ((b.toNat : Int) ≤ 90)) = true) ∧ (!decide ((b.toNat : Int) ≤ 57)) = true) ∧ (!(b.toNat : Int) == 45) = true) ∧ (!(b.toNat : Int) == 46) = true) ∧ (!(b.toNat : Int) == 95) = true) (hr : ¬ ((97 ≤ (b.toNat : Int) ∧ (b.toNat : Int) ≤ 122) ∨ (65 ≤ (b.toNat : Int) ∧ (b.toNat : Int) ≤ 90) ∨ (48 ≤ (b.toNat : Int) ∧ (b.toNat : Int) ≤ 57) ∨ (b.toNat : Int) = 45 ∨ (b.toNat : Int) = 46)) : hopC b = false := hz_no h.2 hr
theorem hz_ok6 {b : UInt8} (h : ((((((!decide ((b.toNat : Int) ≤ 122)) = false) ∨ (!decide ((b.toNat : Int) ≤ 90)) = false) ∨ (!decide ((b.toNat : Int) ≤ 57)) = false) ∨ (!(b.toNat : Int) == 45) = false) ∨ (!(b.toNat : Int) == 46) = false) ∨ (!(b.toNat : Int) == 95) = false) (hr : 122 < (b.toNat : Int) ∧ ¬ (b.toNat : Int) = 45 ∧ ¬ (b.toNat : Int) = 46) : hopC b = true := by
  simp only [Bool.not_eq_false', decide_eq_true_eq, beq_iff_eq] at h
  exact hop_rng (by omega)
theorem hz_no5 {b : UInt8} (h : (((((!decide ((b.toNat : Int) ≤ 90)) = true) ∧ (!decide ((b.toNat : Int) ≤ 57)) = true) ∧ (!(b.toNat : Int) == 45) = true) ∧ (!(b.toNat : Int) == 46) = true) ∧ (!(b.toNat : Int) == 95) = true) (hr : ¬ ((97 ≤ (b.toNat : Int) ∧ (b.toNat : Int) ≤ 122) ∨ (65 ≤ (b.toNat : Int) ∧ (b.toNat : Int) ≤ 90) ∨ (48 ≤ (b.toNat : Int) ∧ (b.toNat : Int) ≤ 57) ∨ (b.toNat : Int) = 45 ∨ (b.toNat : Int) = 46)) : hopC b = false := hz_no h.2 hr
theorem hz_ok5 {b : UInt8} (h : (((((!decide ((b.toNat : Int) ≤ 90)) = false) ∨ (!decide ((b.toNat : Int) ≤ 57)) = false) ∨ (!(b.toNat : Int) == 45) = false) ∨ (!(b.toNat : Int) == 46) = false) ∨ (!(b.toNat : Int) == 95) = false) (hr : 90 < (b.toNat : Int) ∧ ¬ (b.toNat : Int) = 45 ∧ ¬ (b.toNat : Int) = 46) : hopC b = true := by
  simp only [Bool.not_eq_false', decide_eq_true_eq, beq_iff_eq] at h
  exact hop_rng (by omega)
theorem hz_no4 {b : UInt8} (h : ((((!decide ((b.toNat : Int) ≤ 57)) = true) ∧ (!(b.toNat : Int) == 45) = true) ∧ (!(b.toNat : Int) == 46) = true) ∧ (!(b.toNat : Int) == 95) = true) (hr : ¬ ((97 ≤ (b.toNat : Int) ∧ (b.toNat : Int) ≤ 122) ∨ (65 ≤ (b.toNat : Int) ∧ (b.toNat : Int) ≤ 90) ∨ (48 ≤ (b.toNat : Int) ∧ (b.toNat : Int) ≤ 57) ∨ (b.toNat : Int) = 45 ∨ (b.toNat : Int) = 46)) : hopC b = false := hz_no h.2 hr
theorem hz_ok4 {b : UInt8} (h : ((((!decide ((b.toNat : Int) ≤ 57)) = false) ∨ (!(b.toNat : Int) == 45) = false) ∨ (!(b.toNat : Int) == 46) = false) ∨ (!(b.toNat : Int) == 95) = false) (hr : 57 < (b.toNat : Int) ∧ ¬ (b.toNat : Int) = 45 ∧ ¬ (b.toNat : Int) = 46) : hopC b = true := by
  simp only [Bool.not_eq_false', decide_eq_true_eq, beq_iff_eq] at h
  exact hop_rng (by omega)
theorem hz_no3 {b : UInt8} (h : (((!(b.toNat : Int) == 45) = true) ∧ (!(b.toNat : Int) == 46) = true) ∧ (!(b.toNat : Int) == 95) = true) (hr : ¬ ((97 ≤ (b.toNat : Int) ∧ (b.toNat : Int) ≤ 122) ∨ (65 ≤ (b.toNat : Int) ∧ (b.toNat : Int) ≤ 90) ∨ (48 ≤ (b.toNat : Int) ∧ (b.toNat : Int) ≤ 57) ∨ (b.toNat : Int) = 45 ∨ (b.toNat : Int) = 46)) : hopC b = false := hz_no h.2 hr
theorem hz_ok3 {b : UInt8} (h : (((!(b.toNat : Int) == 45) = false) ∨ (!(b.toNat : Int) == 46) = false) ∨ (!(b.toNat : Int) == 95) = false) (hr : True ∧ ¬ (b.toNat : Int) = 45 ∧ ¬ (b.toNat : Int) = 46) : hopC b = true := by
  simp only [Bool.not_eq_false', beq_iff_eq] at h
  exact hop_rng (by omega)

set_option maxHeartbeats 4000000 in
theorem hop21_name (h : ByteArray) (h0 : 0 < h.size) (e : h[0] ≠ 91) (hs : h.size ≤ 4194304) (w : World) :
    Calls Try.prog 21 #[.string h] w fun x w' => x = .returned (.bool (hopOK h.data.toList)) ∧ w = w' := by
  have hne := ne_empty h h0
  have HG : Hid (hopOK h.data.toList = h.data.toList.all hopC) := hopOK_name h h0 e
  have e0 : ((h[0].toNat : Int) == 91) = false := by
    rw [beq_eq_false_iff_ne]
    intro h'
    exact e (byte_is (n := 91) (by decide) (beq_iff_eq.2 h'))
  clear e
  go_enter Try.func21, Try.ntmps21
  go_wp2
  go_loop [5, 6, 7] (fun i _ _ => ∃ k : Nat, k ≤ h.size ∧ i = .int .i64 k ∧ Hid ((h.data.toList.take k).all hopC = true)) (fun i _ _ => h.size - (intOf i).toNat)
  case atStart => exact ⟨0, Nat.zero_le _, rfl, by show _ = true; simp⟩
  case round =>
    clear e0 hne
    obtain ⟨k, hk, rfl, H⟩ := hrel
    by_cases hlt : k < h.size
    · go_wp2
      all_goals first
        | (have hb : hopC h[k] = false := by first | exact hz_no6 (by assumption) (by omega) | exact hz_no5 (by assumption) (by omega) | exact hz_no4 (by assumption) (by omega) | exact hz_no3 (by assumption) (by omega)
           have hf := HG.out.trans (all_bad h hopC k hlt hb)
           go_ret
           exact ⟨by rw [hf]; rfl, rfl⟩)
        | (have hg : hopC h[k] = true := by first | exact hop_rng (by omega) | exact hz_ok6 (by assumption) (by omega) | exact hz_ok5 (by assumption) (by omega) | exact hz_ok4 (by assumption) (by omega) | exact hz_ok3 (by assumption) ⟨trivial, by omega⟩
           have H2 := all_step h hopC k hlt H.out hg
           go_round
           case rel => exact ⟨k + 1, by omega, by go_num, H2⟩
           case measure => simp [intOf]; omega)
    · have e : Hid (hopOK h.data.toList = true) := HG.out.trans (all_end h hopC k (by omega) H.out)
      go_wp2
      go_ret
      exact ⟨by rw [e.out]; rfl, rfl⟩

set_option maxHeartbeats 400000 in
theorem hop21 (h : ByteArray) (hs : h.size ≤ 4194304) (w : World) :
    Calls Try.prog 21 #[.string h] w fun x w' => x = .returned (.bool (hopOK h.data.toList)) ∧ w = w' := by
  by_cases h0 : 0 < h.size
  · by_cases e : h[0] = 91
    · exact hop21_lit h h0 e hs w
    · exact hop21_name h h0 e hs w
  · have he := is_empty h h0
    have HH : Hid (hopOK h.data.toList = false) := hopOK_zero h h0
    go_enter Try.func21, Try.ntmps21
    go_wp2
    go_ret
    exact ⟨by rw [HH.out]; rfl, rfl⟩
end Go.Proofs.Qxb6002905a
