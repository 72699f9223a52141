/-
  THE WALKS OF closing AND zzHasByte; small facts on a string's bytes.
-/
import Derived.Test.Qxb6002905aProg
import Derived.Test.Qxb6002905aUnq
import Derived.WalkKit
import Derived.ProofKit
import Derived.WalkSmall
import Derived.WalkSpells
import Derived.WalkLawsBesides
import Derived.Lib.Strings
namespace Go.Proofs.Qxb6002905a
open Go.RowKit
set_option linter.unusedVariables false

theorem drop_at (s : ByteArray) (k : Nat) (h : k < s.size) : s.data.toList.drop k = s[k] :: s.data.toList.drop (k + 1) := by
  have h' : k < s.data.toList.length := by simpa using h
  rw [List.drop_eq_getElem_cons h']
  rfl
theorem drop_past (s : ByteArray) (k : Nat) (h : s.size ≤ k) : s.data.toList.drop k = [] := List.drop_of_length_le (by simpa using h)
theorem take_at (s : ByteArray) (k : Nat) (h : k < s.size) : s.data.toList.take (k + 1) = s.data.toList.take k ++ [s[k]] := by
  have h' : k < s.data.toList.length := by simpa using h
  rw [List.take_succ_eq_append_getElem h']
  rfl
theorem byte_is {b : UInt8} {n : Nat} (hn : n < 256) (h : ((b.toNat : Int) == (n : Int)) = true) : b = UInt8.ofNat n := by
  have h1 := beq_iff_eq.1 h
  refine UInt8.toNat_inj.1 ?_
  rw [UInt8.toNat_ofNat_of_lt' (by simpa using hn)]
  omega
theorem byte_not {b : UInt8} {n : Nat} (hn : n < 256) (h : ((b.toNat : Int) == (n : Int)) = false) : b ≠ UInt8.ofNat n := by
  intro e
  rw [e, UInt8.toNat_ofNat_of_lt' (by simpa using hn)] at h
  simp at h

/-- what 'closing' answers, from place k on -/
def closAt (s : ByteArray) (k : Nat) : Int := match Unq.clos (s.data.toList.drop k) with | some t => (k : Int) + t | none => -1

theorem closAt_past (s : ByteArray) (k : Nat) (h : s.size ≤ k) : closAt s k = -1 := by
  unfold closAt; rw [drop_past s k h]; rfl
theorem closAt_dq (s : ByteArray) (k : Nat) (h : k < s.size) (e : s[k] = 34) : closAt s k = k := by
  unfold closAt; rw [drop_at s k h, e, Unq.clos_dq]; simp
theorem closAt_bs (s : ByteArray) (k : Nat) (h : k < s.size) (e : s[k] = 92) : closAt s k = closAt s (k + 2) := by
  unfold closAt
  by_cases h2 : k + 1 < s.size
  · rw [drop_at s k h, e, drop_at s (k + 1) h2, Unq.clos_bs]
    cases Unq.clos (s.data.toList.drop (k + 1 + 1)) with
    | none => rfl
    | some t => simp; omega
  · rw [drop_at s k h, e, drop_past s (k + 1) (by omega), drop_past s (k + 2) (by omega), Unq.clos_bs1]
    rfl
theorem closAt_lit (s : ByteArray) (k : Nat) (h : k < s.size) (e1 : s[k] ≠ 34) (e2 : s[k] ≠ 92) : closAt s k = closAt s (k + 1) := by
  unfold closAt
  rw [drop_at s k h, Unq.clos_lit _ _ e1 e2]
  cases Unq.clos (s.data.toList.drop (k + 1)) with
  | none => rfl
  | some t => simp; omega
theorem closAt_some (s : ByteArray) (k t : Nat) (h : Unq.clos (s.data.toList.drop k) = some t) : closAt s k = ((k + t : Nat) : Int) := by
  unfold closAt; rw [h]; simp

set_option maxHeartbeats 400000 in
theorem closing_any (s : ByteArray) (i : Nat) (hi : i < s.size) (hs : s.size ≤ 4194304) (w : World) :
    Calls Try.prog 24 #[.string s, .int .i64 i, .int .u8 34] w fun e w' => e = .returned (.int .i64 (closAt s (i + 1))) ∧ w' = w := by
  go_enter Try.func24, Try.ntmps24
  go_wp2
  go_loop [7] (fun j => ∃ k : Nat, k ≤ s.size + 1 ∧ j = .int .i64 k ∧ Hid (closAt s (i + 1) = closAt s k)) (fun j => s.size + 1 - (intOf j).toNat)
  case atStart => exact ⟨i + 1, by omega, by go_num, rfl⟩
  case round =>
    obtain ⟨k, hk, rfl, H⟩ := hrel
    by_cases hlt : k < s.size
    · go_wp2
      · have e : s[k] = 92 := byte_is (n := 92) (by decide) (by assumption)
        have H2 := H.out.trans (closAt_bs s k hlt e)
        go_round
        case rel => exact ⟨k + 2, by omega, by go_num, H2⟩
        case measure => simp [intOf]; omega
      · have e : s[k] = 34 := byte_is (n := 34) (by decide) (by assumption)
        have H2 := H.out.trans (closAt_dq s k hlt e)
        go_ret
        exact ⟨by rw [H2]; rfl, rfl⟩
      · have e1 : s[k] ≠ 92 := byte_not (n := 92) (by decide) (by assumption)
        have e2 : s[k] ≠ 34 := byte_not (n := 34) (by decide) (by assumption)
        have H2 := H.out.trans (closAt_lit s k hlt e2 e1)
        go_round
        case rel => exact ⟨k + 1, by omega, by go_num, H2⟩
        case measure => simp [intOf]; omega
    · have H2 : Hid (closAt s (i + 1) = -1) := H.out.trans (closAt_past s k (by omega))
      clear H
      go_wp2
      go_ret
      exact ⟨by rw [H2.out]; rfl, rfl⟩

/-- does the byte c stand in l? -/
def has (l : List UInt8) (c : UInt8) : Bool := decide (c ∈ l)
theorem has_yes (s : ByteArray) (c : UInt8) (k : Nat) (h : k < s.size) (e : ((s[k].toNat : Int) == (c.toNat : Int)) = true) : has s.data.toList c = true := by
  unfold has
  have e' : s[k] = c := by
    have := beq_iff_eq.1 e
    exact UInt8.toNat_inj.1 (by omega)
  rw [decide_eq_true_iff, ← e']
  have : s[k] = s.data.toList[k]'(by simpa using h) := rfl
  rw [this]
  exact List.getElem_mem _
theorem has_step (s : ByteArray) (c : UInt8) (k : Nat) (h : k < s.size) (hn : c ∉ s.data.toList.take k) (e : ((s[k].toNat : Int) == (c.toNat : Int)) = false) : c ∉ s.data.toList.take (k + 1) := by
  have e' : s[k] ≠ c := by
    intro he
    rw [he] at e
    simp at e
  rw [take_at s k h, List.mem_append]
  rintro (h1 | h1)
  · exact hn h1
  · simp only [List.mem_singleton] at h1
    exact e' h1.symm
theorem has_no (s : ByteArray) (c : UInt8) (k : Nat) (h : ¬ k < s.size) (hn : c ∉ s.data.toList.take k) : has s.data.toList c = false := by
  unfold has
  rw [List.take_of_length_le (by simp; omega)] at hn
  simpa using hn

set_option maxHeartbeats 400000 in
theorem hasByte_any (s : ByteArray) (c : UInt8) (hs : s.size ≤ maxLen) (w : World) :
    Calls Try.prog 11 #[.string s, .int .u8 c.toNat] w fun e w' => e = .returned (.bool (has s.data.toList c)) ∧ w' = w := by
  unfold maxLen at hs
  go_enter Try.func11, Try.ntmps11
  go_wp2
  go_loop [5] (fun i => ∃ k : Nat, k ≤ s.size ∧ i = .int .i64 k ∧ c ∉ s.data.toList.take k) (fun i => s.size - (intOf i).toNat)
  case atStart => exact ⟨0, Nat.zero_le _, rfl, by simp⟩
  case round =>
    obtain ⟨k, hk, rfl, hn⟩ := hrel
    by_cases hlt : k < s.size
    · go_wp2
      · have e : ((s[k].toNat : Int) == (c.toNat : Int)) = true := by assumption
        have hy := has_yes s c k hlt e
        go_ret
        exact ⟨by rw [hy]; rfl, rfl⟩
      · have e : ((s[k].toNat : Int) == (c.toNat : Int)) = false := by assumption
        have hy := has_step s c k hlt hn e
        go_round
        case rel => exact ⟨k + 1, by omega, by go_num, hy⟩
        case measure => simp [intOf]; omega
    · have Hy : Hid (has s.data.toList c = false) := has_no s c k hlt hn
      go_wp2
      go_ret
      exact ⟨by rw [Hy.out]; rfl, rfl⟩
end Go.Proofs.Qxb6002905a
