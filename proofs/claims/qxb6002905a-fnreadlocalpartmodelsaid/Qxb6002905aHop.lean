/-
  THE WALKS OF isHop, isDomainLiteral, zzHopOK: each answers 'hopOK'.
-/
import Derived.Test.Qxb6002905aClos
import Derived.Deep.DeepMust
import Derived.Deep.Light
namespace Go.Proofs.Qxb6002905a
open Go.RowKit
set_option linter.unusedVariables false

/-- a letter, a digit, a hyphen, a dot, an underscore -/
def hopC (c : UInt8) : Bool := decide ((97 ≤ c.toNat ∧ c.toNat ≤ 122) ∨ (65 ≤ c.toNat ∧ c.toNat ≤ 90) ∨ (48 ≤ c.toNat ∧ c.toNat ≤ 57) ∨ c.toNat = 45 ∨ c.toNat = 46 ∨ c.toNat = 95)
/-- printable, no bracket, no backslash -/
def litC (c : UInt8) : Bool := decide (33 ≤ c.toNat ∧ c.toNat ≤ 126 ∧ c.toNat ≠ 91 ∧ c.toNat ≠ 93 ∧ c.toNat ≠ 92)
/-- a hop: a domain literal, or a name -/
def hopOK (l : List UInt8) : Bool :=
  match l with
  | [] => false
  | c :: t => if c = 91 then decide (3 ≤ (c :: t).length) && decide ((c :: t)[(c :: t).length - 1]? = some 93) && (((c :: t).drop 1).take ((c :: t).length - 2)).all litC else (c :: t).all hopC

theorem hopOK_nil : hopOK [] = false := rfl
theorem hopOK_cons (c : UInt8) (t : List UInt8) : hopOK (c :: t) = if c = 91 then decide (3 ≤ (c :: t).length) && decide ((c :: t)[(c :: t).length - 1]? = some 93) && (((c :: t).drop 1).take ((c :: t).length - 2)).all litC else (c :: t).all hopC := rfl
theorem size_list (h : ByteArray) : h.data.toList.length = h.size := by simp
theorem list_head (h : ByteArray) (h0 : 0 < h.size) : h.data.toList = h[0] :: h.data.toList.drop 1 := by
  have := drop_at h 0 h0
  simpa using this
theorem hopOK_name (h : ByteArray) (h0 : 0 < h.size) (e : h[0] ≠ 91) : hopOK h.data.toList = h.data.toList.all hopC := by
  rw [list_head h h0, hopOK_cons, if_neg e]
theorem hopOK_lit (h : ByteArray) (h0 : 0 < h.size) (e : h[0] = 91) : hopOK h.data.toList = (decide (3 ≤ h.size) && decide (h.data.toList[h.size - 1]? = some 93) && ((h.data.toList.drop 1).take (h.size - 2)).all litC) := by
  have hl := size_list h
  rw [← hl]
  rw [list_head h h0, hopOK_cons, if_pos e]
theorem list_at (h : ByteArray) (k : Nat) (hk : k < h.size) : h.data.toList[k]? = some h[k] := by
  have h' : k < h.data.toList.length := by rw [size_list]; exact hk
  rw [List.getElem?_eq_getElem h']
  rfl
theorem all_step (h : ByteArray) (p : UInt8 → Bool) (k : Nat) (hk : k < h.size) (ha : (h.data.toList.take k).all p = true) (hp : p h[k] = true) : (h.data.toList.take (k + 1)).all p = true := by
  rw [take_at h k hk, List.all_append, ha]
  simp [hp]
theorem all_end (h : ByteArray) (p : UInt8 → Bool) (k : Nat) (hk : h.size ≤ k) (ha : (h.data.toList.take k).all p = true) : h.data.toList.all p = true := by
  rw [List.take_of_length_le (by rw [size_list]; exact hk)] at ha
  exact ha
theorem all_bad (h : ByteArray) (p : UInt8 → Bool) (k : Nat) (hk : k < h.size) (hp : p h[k] = false) : h.data.toList.all p = false := by
  rw [List.all_eq_false]
  refine ⟨h[k], ?_, by simp [hp]⟩
  exact List.mem_of_getElem? (list_at h k hk)
theorem mid_step (h : ByteArray) (p : UInt8 → Bool) (k : Nat) (hk : k < h.size) (h1 : 1 ≤ k) (ha : ((h.data.toList.drop 1).take (k - 1)).all p = true) (hp : p h[k] = true) : ((h.data.toList.drop 1).take (k + 1 - 1)).all p = true := by
  have e : k + 1 - 1 = (k - 1) + 1 := by omega
  have hl : k - 1 < (h.data.toList.drop 1).length := by rw [List.length_drop, size_list]; omega
  rw [e, List.take_succ_eq_append_getElem hl, List.all_append, ha]
  have e2 : (h.data.toList.drop 1)[k - 1] = h[k] := by
    rw [List.getElem_drop]
    have e3 : 1 + (k - 1) = k := by omega
    simp only [e3]
    rfl
  rw [e2]
  simp [hp]
theorem mid_bad (h : ByteArray) (p : UInt8 → Bool) (k : Nat) (h1 : 1 ≤ k) (hk : k < h.size - 1) (hp : p h[k] = false) : ((h.data.toList.drop 1).take (h.size - 2)).all p = false := by
  rw [List.all_eq_false]
  refine ⟨h[k], ?_, by simp [hp]⟩
  have : ((h.data.toList.drop 1).take (h.size - 2))[k - 1]? = some h[k] := by
    rw [List.getElem?_take_of_lt (by omega), List.getElem?_drop]
    have e3 : 1 + (k - 1) = k := by omega
    rw [e3]
    exact list_at h k (by omega)
  exact List.mem_of_getElem? this

theorem neq_is {b : UInt8} {n : Nat} (hn : n < 256) (h : ((b.toNat : Int) != (n : Int)) = false) : b = UInt8.ofNat n :=
  byte_is hn (by simpa [bne] using h)
theorem neq_not {b : UInt8} {n : Nat} (hn : n < 256) (h : ((b.toNat : Int) != (n : Int)) = true) : b ≠ UInt8.ofNat n :=
  byte_not hn (by simpa [bne] using h)
theorem lit_last_bad (h : ByteArray) (h0 : 0 < h.size) (e : h[0] = 91) (hl : (hk : h.size - 1 < h.size) → h[h.size - 1] ≠ 93) : hopOK h.data.toList = false := by
  rw [hopOK_lit h h0 e]
  have e2 : decide (h.data.toList[h.size - 1]? = some 93) = false := by
    rw [decide_eq_false_iff_not, list_at h (h.size - 1) (by omega)]
    intro h'
    exact hl (by omega) (Option.some.inj h')
  rw [e2]
  simp
theorem lit_good (h : ByteArray) (h0 : 0 < h.size) (e : h[0] = 91) (h3 : 3 ≤ h.size) (hl : (hk : h.size - 1 < h.size) → h[h.size - 1] = 93) : hopOK h.data.toList = ((h.data.toList.drop 1).take (h.size - 2)).all litC := by
  rw [hopOK_lit h h0 e, list_at h (h.size - 1) (by omega), hl (by omega), decide_eq_true h3]
  simp

theorem lit_lt {b : UInt8} (h : (b.toNat : Int) < 33) : litC b = false := by unfold litC; rw [decide_eq_false_iff_not]; omega
theorem lit_gt {b : UInt8} (h : 126 < (b.toNat : Int)) : litC b = false := by unfold litC; rw [decide_eq_false_iff_not]; omega
theorem lit_91 {b : UInt8} (h : (b.toNat : Int) = 91) : litC b = false := by unfold litC; rw [decide_eq_false_iff_not]; omega
theorem lit_93 {b : UInt8} (h : (b.toNat : Int) = 93) : litC b = false := by unfold litC; rw [decide_eq_false_iff_not]; omega
theorem lit_any {b : UInt8} (h : ((((b.toNat : Int) < 33 ∨ 126 < (b.toNat : Int)) ∨ ((b.toNat : Int) == 91) = true) ∨ ((b.toNat : Int) == 93) = true) ∨ ((b.toNat : Int) == 92) = true) : litC b = false := by
  unfold litC; rw [decide_eq_false_iff_not]
  rw [beq_iff_eq, beq_iff_eq, beq_iff_eq] at h
  omega
theorem lit_ok {b : UInt8} (h : (((33 ≤ (b.toNat : Int) ∧ (b.toNat : Int) ≤ 126) ∧ ((b.toNat : Int) == 91) = false) ∧ ((b.toNat : Int) == 93) = false) ∧ ((b.toNat : Int) == 92) = false) : litC b = true := by
  unfold litC; rw [decide_eq_true_iff]
  rw [beq_eq_false_iff_ne, beq_eq_false_iff_ne, beq_eq_false_iff_ne] at h
  omega

set_option maxHeartbeats 1000000 in
theorem lit41 (h : ByteArray) (h0 : 0 < h.size) (e : h[0] = 91) (hs : h.size ≤ 4194304) (w : World) :
    Calls Try.prog 41 #[.string h] w fun x w' => x = .returned (.bool (hopOK h.data.toList)) ∧ w = w' := by
  by_cases h3 : 3 ≤ h.size
  · have e0 : (h[0].toNat : Int) = 91 := by rw [e]; rfl
    by_cases hb : h[h.size - 1] = 93
    · have HG : Hid (hopOK h.data.toList = ((h.data.toList.drop 1).take (h.size - 2)).all litC) := lit_good h h0 e h3 (fun _ => hb)
      have e1 : (h[h.size - 1].toNat : Int) = 93 := by rw [hb]; rfl
      clear e hb
      go_enter Try.func41, Try.ntmps41
      go_wp2
      go_loop [3, 4] (fun i _ => ∃ k : Nat, 1 ≤ k ∧ k ≤ h.size - 1 ∧ i = .int .i64 k ∧ Hid (((h.data.toList.drop 1).take (k - 1)).all litC = true)) (fun i _ => h.size - (intOf i).toNat)
      case atStart => exact ⟨1, by omega, by omega, rfl, by show _ = true; simp⟩
      case round =>
        clear e0 e1
        obtain ⟨k, hk1, hk, rfl, H⟩ := hrel
        by_cases hlt : k < h.size - 1
        · go_wp2
          rotate_left 3
          · have hg : litC h[k] = true := lit_ok (by assumption)
            have H2 := mid_step h litC k (by omega) hk1 H.out hg
            go_round
            case rel => exact ⟨k + 1, by omega, by omega, by go_num, H2⟩
            case measure => simp [intOf]; omega
          all_goals
            have hb : litC h[k] = false := by first | exact lit_lt (by assumption) | exact lit_gt (by assumption) | exact lit_91 (by assumption) | exact lit_93 (by assumption) | exact lit_any (by assumption)
            have hf := HG.out.trans (mid_bad h litC k hk1 hlt hb)
            go_ret
            exact ⟨by rw [hf]; rfl, rfl⟩
        · have e : Hid (hopOK h.data.toList = true) := by
            have ek : k - 1 = h.size - 2 := by omega
            have := H.out
            rw [ek] at this
            exact HG.out.trans this
          go_wp2
          go_ret
          exact ⟨by rw [e.out]; rfl, rfl⟩
    · have HF : Hid (hopOK h.data.toList = false) := lit_last_bad h h0 e (fun _ => hb)
      have e1 : ((h[h.size - 1].toNat : Int) != 93) = true := by
        rw [bne_iff_ne]
        intro h'
        exact hb (byte_is (n := 93) (by decide) (beq_iff_eq.2 h'))
      clear e hb
      go_enter Try.func41, Try.ntmps41
      go_wp2
      go_ret
      exact ⟨by rw [HF.out]; rfl, rfl⟩
  · have HH : Hid (hopOK h.data.toList = false) := by
      show hopOK _ = false
      rw [hopOK_lit h h0 e, decide_eq_false h3]
      rfl
    clear e
    go_enter Try.func41, Try.ntmps41
    go_wp2
    go_ret
    exact ⟨by rw [HH.out]; rfl, rfl⟩

theorem hop_rng {b : UInt8} (h : (97 ≤ (b.toNat : Int) ∧ (b.toNat : Int) ≤ 122) ∨ (65 ≤ (b.toNat : Int) ∧ (b.toNat : Int) ≤ 90) ∨ (48 ≤ (b.toNat : Int) ∧ (b.toNat : Int) ≤ 57) ∨ (b.toNat : Int) = 45 ∨ (b.toNat : Int) = 46 ∨ (b.toNat : Int) = 95) : hopC b = true := by
  unfold hopC; rw [decide_eq_true_iff]; omega
theorem hop_dis {b : UInt8} (h : (((b.toNat : Int) == 45) = true ∨ ((b.toNat : Int) == 46) = true) ∨ ((b.toNat : Int) == 95) = true) : hopC b = true := by
  rw [beq_iff_eq, beq_iff_eq, beq_iff_eq] at h
  exact hop_rng (by omega)
theorem hop_no {b : UInt8} (h : (((b.toNat : Int) == 45) = false ∧ ((b.toNat : Int) == 46) = false) ∧ ((b.toNat : Int) == 95) = false)
    (hr : ¬ ((97 ≤ (b.toNat : Int) ∧ (b.toNat : Int) ≤ 122) ∨ (65 ≤ (b.toNat : Int) ∧ (b.toNat : Int) ≤ 90) ∨ (48 ≤ (b.toNat : Int) ∧ (b.toNat : Int) ≤ 57))) : hopC b = false := by
  rw [beq_eq_false_iff_ne, beq_eq_false_iff_ne, beq_eq_false_iff_ne] at h
  unfold hopC; rw [decide_eq_false_iff_not]; omega

theorem ne_empty (h : ByteArray) (h0 : 0 < h.size) : h.toList.isEmpty = false := by
  rw [Lib.toList_data, List.isEmpty_eq_false_iff]
  intro e
  have := congrArg List.length e
  rw [size_list, List.length_nil] at this
  omega
theorem is_empty (h : ByteArray) (h0 : ¬ 0 < h.size) : h.toList.isEmpty = true := by
  rw [Lib.toList_data, List.isEmpty_iff, ← List.length_eq_zero_iff, size_list]
  omega
theorem hopOK_zero (h : ByteArray) (h0 : ¬ 0 < h.size) : hopOK h.data.toList = false := by
  have : h.data.toList = [] := List.eq_nil_of_length_eq_zero (by rw [size_list]; omega)
  rw [this]; exact hopOK_nil

set_option maxHeartbeats 2000000 in
theorem hop35 (h : ByteArray) (hs : h.size ≤ 4194304) (w : World) :
    Calls Try.prog 35 #[.string h] w fun x w' => x = .returned (.bool (hopOK h.data.toList)) ∧ w = w' := by
  by_cases h0 : 0 < h.size
  · have hne := ne_empty h h0
    by_cases e : h[0] = 91
    · have E : Hid (h[0] = 91) := e
      have e0 : (h[0].toNat : Int) = 91 := by rw [e]; rfl
      clear e
      go_enter Try.func35, Try.ntmps35
      go_wp2_with (go_at_call 41; refine (lit41 h h0 E.out hs _).mono ?_; rintro x w' ⟨rfl, rfl⟩)
      go_ret
      exact ⟨rfl, rfl⟩
    · have HG : Hid (hopOK h.data.toList = h.data.toList.all hopC) := hopOK_name h h0 e
      have e0 : ((h[0].toNat : Int) == 91) = false := by
        rw [beq_eq_false_iff_ne]
        intro h'
        exact e (byte_is (n := 91) (by decide) (beq_iff_eq.2 h'))
      clear e
      go_enter Try.func35, Try.ntmps35
      go_wp2
      go_loop [3, 4] (fun i _ => ∃ k : Nat, k ≤ h.size ∧ i = .int .i64 k ∧ Hid ((h.data.toList.take k).all hopC = true)) (fun i _ => h.size - (intOf i).toNat)
      case atStart => exact ⟨0, Nat.zero_le _, rfl, by show _ = true; simp⟩
      case round =>
        clear e0 hne
        obtain ⟨k, hk, rfl, H⟩ := hrel
        by_cases hlt : k < h.size
        · go_wp2
          all_goals first
            | (have hb : hopC h[k] = false := hop_no (by assumption) (by omega)
               have hf := HG.out.trans (all_bad h hopC k hlt hb)
               go_ret
               exact ⟨by rw [hf]; rfl, rfl⟩)
            | (have hg : hopC h[k] = true := by first | exact hop_dis (by assumption) | exact hop_rng (by omega)
               have H2 := all_step h hopC k hlt H.out hg
               go_round
               case rel => exact ⟨k + 1, by omega, by go_num, H2⟩
               case measure => simp [intOf]; omega)
        · have e : Hid (hopOK h.data.toList = true) := HG.out.trans (all_end h hopC k (by omega) H.out)
          go_wp2
          go_ret
          exact ⟨by rw [e.out]; rfl, rfl⟩
  · have he := is_empty h h0
    have HH : Hid (hopOK h.data.toList = false) := hopOK_zero h h0
    go_enter Try.func35, Try.ntmps35
    go_wp2
    go_ret
    exact ⟨by rw [HH.out]; rfl, rfl⟩
end Go.Proofs.Qxb6002905a
