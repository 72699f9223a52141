/-
  THE TABLE, PLAIN: row i tells of which prefixes of the path the first i bytes of the pattern match; it answers as the glob relation does.
-/
import Derived.Test.Qxb6600232aMatch
namespace Go.Proofs.Qxb6600232a
open Go.RowKit Go.Proofs.Qxb6600232a.Glob
set_option linter.unusedVariables false

def anyLt (f : Nat → Bool) : Nat → Bool
  | 0 => false
  | k + 1 => anyLt f k || f k
theorem anyLt_iff (f : Nat → Bool) : ∀ k, anyLt f k = true ↔ ∃ q, q < k ∧ f q = true
  | 0 => by simp [anyLt]
  | k + 1 => by
    rw [anyLt, Bool.or_eq_true, anyLt_iff f k]
    constructor
    · rintro (⟨q, h1, h2⟩ | h)
      · exact ⟨q, by omega, h2⟩
      · exact ⟨k, by omega, h⟩
    · rintro ⟨q, h1, h2⟩
      by_cases e : q = k
      · rw [e] at h2; exact Or.inr h2
      · exact Or.inl ⟨q, by omega, h2⟩
/-- one row from the row before -/
def stN (c : UInt8) (s : ByteArray) (f : Nat → Bool) (j : Nat) : Bool := if c = 42 then anyLt f (j + 1) else decide (0 < j) && (f (j - 1) && decide (s.data.toList[j - 1]? = some c))
/-- the table -/
def dp (p s : ByteArray) : Nat → Nat → Bool
  | 0, j => decide (j = 0)
  | i + 1, j => stN (p.data.toList.getD i 0) s (dp p s i) j

theorem take_take_le {l : List UInt8} {j k : Nat} (h : k ≤ j) : (l.take j).take k = l.take k := by rw [List.take_take, Nat.min_eq_left h]
theorem dp_iff (p s : ByteArray) : ∀ i j, i ≤ p.size → j ≤ s.size → (dp p s i j = true ↔ M (p.data.toList.take i) (s.data.toList.take j))
  | 0, j, _, hj => by
    rw [dp, decide_eq_true_iff, List.take_zero, M_nil]
    constructor
    · intro h; rw [h, List.take_zero]
    · intro h
      have := congrArg List.length h
      rw [List.length_take, size_list, List.length_nil] at this
      omega
  | i + 1, j, hi, hj => by
    have hl : i < p.data.toList.length := by rw [size_list]; omega
    have e : p.data.toList.take (i + 1) = p.data.toList.take i ++ [p.data.toList[i]] := List.take_succ_eq_append_getElem hl
    have e2 : p.data.toList.getD i 0 = p.data.toList[i] := by rw [List.getD_eq_getElem?_getD, List.getElem?_eq_getElem hl]; rfl
    rw [dp, e, e2]
    generalize p.data.toList[i] = c
    have lj : (s.data.toList.take j).length = j := by rw [List.length_take, size_list]; omega
    unfold stN
    by_cases hc : c = 42
    · subst hc
      rw [if_pos rfl, anyLt_iff, M_snoc_star]
      constructor
      · rintro ⟨q, h1, h2⟩
        refine ⟨q, by omega, ?_⟩
        rw [take_take_le (by omega)]
        exact (dp_iff p s i q (by omega) (by omega)).1 h2
      · rintro ⟨k, h1, h2⟩
        rw [take_take_le (by omega)] at h2
        exact ⟨k, by omega, (dp_iff p s i k (by omega) (by omega)).2 h2⟩
    · rw [if_neg hc, M_snoc_lit _ _ _ hc, Bool.and_eq_true, Bool.and_eq_true, decide_eq_true_iff, decide_eq_true_iff]
      constructor
      · rintro ⟨h0, h1, h2⟩
        refine ⟨s.data.toList.take (j - 1), ?_, (dp_iff p s i (j - 1) (by omega) (by omega)).1 h1⟩
        obtain ⟨hk, he⟩ := List.getElem?_eq_some_iff.1 h2
        have := List.take_succ_eq_append_getElem hk
        rw [he] at this
        have ej : j - 1 + 1 = j := by omega
        rw [ej] at this
        exact this
      · rintro ⟨t, h1, h2⟩
        have h3 := congrArg List.length h1
        rw [lj, List.length_append, List.length_singleton] at h3
        have h0 : 0 < j := by omega
        have hk : j - 1 < s.data.toList.length := by rw [size_list]; omega
        have h4 := List.take_succ_eq_append_getElem hk
        have ej : j - 1 + 1 = j := by omega
        rw [ej, h1] at h4
        obtain ⟨h5, h6⟩ := List.append_inj' h4 rfl
        refine ⟨h0, ?_, ?_⟩
        · refine (dp_iff p s i (j - 1) (by omega) (by omega)).2 ?_
          rw [← h5]; exact h2
        · rw [List.getElem?_eq_getElem hk]
          simp only [List.cons.injEq, and_true] at h6
          rw [h6]

/-- the body of the pattern -/
theorem body_yes (p : ByteArray) (h0 : 0 < p.size) (e : p[p.size - 1] = 36) : Lib.hasSuffix p.data.toList [36] = true ∧ Lib.trimSuffix p.data.toList [36] = (p.extract 0 (p.size - 1)).data.toList := by
  have hk : p.size - 1 < p.data.toList.length := by rw [size_list]; omega
  have h1 := List.take_succ_eq_append_getElem hk
  have ek : p.size - 1 + 1 = p.data.toList.length := by rw [size_list]; omega
  rw [ek, List.take_length] at h1
  have e2 : p.data.toList[p.size - 1] = 36 := e
  rw [e2] at h1
  rw [h1, head_list]
  exact ⟨suf_of _ _, trim_of _ _⟩
theorem body_no (p : ByteArray) (h : ∀ h0 : 0 < p.size, p[p.size - 1] ≠ 36) : Lib.hasSuffix p.data.toList [36] = false ∧ Lib.trimSuffix p.data.toList [36] = p.data.toList := by
  have h1 : Lib.hasSuffix p.data.toList [36] = false := by
    cases hs : Lib.hasSuffix p.data.toList [36] with
    | false => rfl
    | true =>
      obtain ⟨q, hq⟩ := suf_split hs
      have hl := congrArg List.length hq
      rw [size_list, List.length_append, List.length_singleton] at hl
      have h0 : 0 < p.size := by omega
      refine absurd ?_ (h h0)
      have hk : p.size - 1 < p.data.toList.length := by rw [size_list]; omega
      have e2 : p.data.toList[p.size - 1]? = some 36 := by
        rw [hq, List.getElem?_append_right (by omega)]
        have : p.size - 1 - q.length = 0 := by omega
        rw [this]; rfl
      rw [List.getElem?_eq_getElem hk, Option.some.injEq] at e2
      exact e2
  exact ⟨h1, trim_no h1⟩
/-- what the model answers -/
def modelR (an : Bool) (b s : ByteArray) : Bool := if an then dp b s b.size s.size else anyLt (dp b s b.size) (s.size + 1)
theorem model_is (p b s : ByteArray) (an : Bool) (h1 : Lib.hasSuffix p.data.toList [36] = an) (h2 : Lib.trimSuffix p.data.toList [36] = b.data.toList) : mat p.data.toList s.data.toList = modelR an b s := by
  rw [Bool.eq_iff_iff, mat_iff, h1, h2]
  have tb : b.data.toList.take b.size = b.data.toList := by rw [← size_list, List.take_length]
  have ts : s.data.toList.take s.size = s.data.toList := by rw [← size_list, List.take_length]
  unfold modelR
  cases an with
  | true =>
    have := dp_iff b s b.size s.size (Nat.le_refl _) (Nat.le_refl _)
    rw [tb, ts] at this
    simp only [star, if_true, List.append_nil]
    exact this.symm
  | false =>
    simp only [star, Bool.false_eq_true, if_false]
    rw [M_un, anyLt_iff]
    constructor
    · rintro ⟨k, hk, hm⟩
      rw [size_list] at hk
      refine ⟨k, by omega, ?_⟩
      rw [dp_iff b s b.size k (Nat.le_refl _) hk, tb]
      exact hm
    · rintro ⟨k, hk, hm⟩
      rw [dp_iff b s b.size k (Nat.le_refl _) (by omega), tb] at hm
      exact ⟨k, by rw [size_list]; omega, hm⟩
end Go.Proofs.Qxb6600232a
