/-
  THE READING OF A LOCAL PART, PLAIN: the first bang, the last single percent, one step, all steps.
-/
import Derived.Test.Qxb6002905aHop
import Derived.Lib.IndexLaws
namespace Go.Proofs.Qxb6002905a
set_option linter.unusedVariables false

/-- the byte at place i -/
def bat (s : ByteArray) (i : Nat) : Option UInt8 := s.data.toList[i]?
theorem bat_lt {s : ByteArray} {i : Nat} {c : UInt8} (h : bat s i = some c) : i < s.size := by
  have := (List.getElem?_eq_some_iff.1 h).1
  rw [size_list] at this
  exact this
theorem bat_at (s : ByteArray) (i : Nat) (h : i < s.size) : bat s i = some s[i] := list_at s i h

/-- the first bang in s[l:r] -/
def bangF (s : ByteArray) : Nat → Nat → Option Nat
  | 0, _ => none
  | n + 1, i => if bat s i = some 33 then some i else bangF s n (i + 1)
def bangO (s : ByteArray) (l r : Nat) : Option Nat := bangF s (r - l) l

theorem bangF_spec (s : ByteArray) : ∀ n i, (bangF s n i = none ∧ ∀ j, i ≤ j → j < i + n → bat s j ≠ some 33) ∨ ∃ b, bangF s n i = some b ∧ i ≤ b ∧ b < i + n ∧ bat s b = some 33 ∧ ∀ j, i ≤ j → j < b → bat s j ≠ some 33
  | 0, i => Or.inl ⟨rfl, fun j h1 h2 => absurd h2 (by omega)⟩
  | n + 1, i => by
    by_cases h : bat s i = some 33
    · exact Or.inr ⟨i, by unfold bangF; rw [if_pos h], by omega, by omega, h, fun j h1 h2 => absurd h2 (by omega)⟩
    · have e : bangF s (n + 1) i = bangF s n (i + 1) := by
        conv => lhs; unfold bangF
        rw [if_neg h]
      rw [e]
      rcases bangF_spec s n (i + 1) with ⟨h1, h2⟩ | ⟨b, h1, h2, h3, h4, h5⟩
      · refine Or.inl ⟨h1, fun j hj1 hj2 => ?_⟩
        by_cases ej : j = i
        · rw [ej]; exact h
        · exact h2 j (by omega) (by omega)
      · refine Or.inr ⟨b, h1, by omega, by omega, h4, fun j hj1 hj2 => ?_⟩
        by_cases ej : j = i
        · rw [ej]; exact h
        · exact h5 j (by omega) hj2
/-- what it is for b to be the first bang of s[l:r] -/
def IsBang (s : ByteArray) (l r b : Nat) : Prop := l ≤ b ∧ b < r ∧ bat s b = some 33 ∧ ∀ j, l ≤ j → j < b → bat s j ≠ some 33
theorem bang_spec (s : ByteArray) (l r : Nat) : (bangO s l r = none ∧ ∀ j, l ≤ j → j < r → bat s j ≠ some 33) ∨ ∃ b, bangO s l r = some b ∧ IsBang s l r b := by
  unfold bangO
  rcases bangF_spec s (r - l) l with ⟨h1, h2⟩ | ⟨b, h1, h2, h3, h4, h5⟩
  · exact Or.inl ⟨h1, fun j hj1 hj2 => h2 j hj1 (by omega)⟩
  · exact Or.inr ⟨b, h1, h2, by omega, h4, h5⟩
theorem bang_some {s : ByteArray} {l r b : Nat} (h : IsBang s l r b) : bangO s l r = some b := by
  rcases bang_spec s l r with ⟨_, h2⟩ | ⟨b', h1, h2⟩
  · exact absurd h.2.2.1 (h2 b h.1 h.2.1)
  · rw [h1]
    rcases Nat.lt_trichotomy b b' with h3 | h3 | h3
    · exact absurd h.2.2.1 (h2.2.2.2 b h.1 h3)
    · rw [h3]
    · exact absurd h2.2.2.1 (h.2.2.2 b' h2.1 h3)
theorem bang_none {s : ByteArray} {l r : Nat} (h : ∀ j, l ≤ j → j < r → bat s j ≠ some 33) : bangO s l r = none := by
  rcases bang_spec s l r with ⟨h1, _⟩ | ⟨b', _, h2⟩
  · exact h1
  · exact absurd h2.2.2.1 (h b' h2.1 h2.2.1)
theorem bang_is {s : ByteArray} {l r b : Nat} (h : bangO s l r = some b) : IsBang s l r b := by
  rcases bang_spec s l r with ⟨h1, _⟩ | ⟨b', h1, h2⟩
  · rw [h1] at h; exact absurd h (by simp)
  · rw [h1, Option.some.injEq] at h; rw [← h]; exact h2
/-- of IndexByte's answer over the cut -/
theorem bat_extract (s : ByteArray) (l r j : Nat) (hr : r ≤ s.size) (h : l + j < r) : (s.extract l r).data.toList[j]? = bat s (l + j) := by
  rw [Lib.extract_data, List.getElem?_take_of_lt (by omega), List.getElem?_drop]
  rfl
theorem bang_of_idx (s : ByteArray) (l r : Nat) (hl : l ≤ r) (hr : r ≤ s.size) :
    (Lib.indexByte (s.extract l r).data.toList 33 = -1 ∧ bangO s l r = none) ∨ ∃ i : Nat, Lib.indexByte (s.extract l r).data.toList 33 = i ∧ l + i < r ∧ bangO s l r = some (l + i) := by
  have hsz : (s.extract l r).data.toList.length = r - l := by rw [size_list, ByteArray.size_extract]; omega
  have hge := Lib.indexByte_ge (s.extract l r).data.toList 33
  by_cases e : Lib.indexByte (s.extract l r).data.toList 33 = -1
  · refine Or.inl ⟨e, bang_none fun j h1 h2 => ?_⟩
    have h3 := Lib.indexByte_none e (j - l)
    rw [bat_extract s l r (j - l) hr (by omega)] at h3
    have e2 : l + (j - l) = j := by omega
    rw [e2] at h3
    exact h3
  · have e1 : Lib.indexByte (s.extract l r).data.toList 33 = ((Lib.indexByte (s.extract l r).data.toList 33).toNat : Nat) := by omega
    obtain ⟨h1, h2⟩ := Lib.indexByte_some e1
    have hlt : (Lib.indexByte (s.extract l r).data.toList 33).toNat < r - l := by
      have := (List.getElem?_eq_some_iff.1 h1).1
      omega
    refine Or.inr ⟨_, e1, by omega, bang_some ⟨by omega, by omega, ?_, fun j hj1 hj2 => ?_⟩⟩
    · rw [← bat_extract s l r _ hr (by omega)]; exact h1
    · have h3 := h2 (j - l) (by omega)
      rw [bat_extract s l r (j - l) hr (by omega)] at h3
      have e2 : l + (j - l) = j := by omega
      rw [e2] at h3
      exact h3

/-- a percent sign with no percent sign right before or after it -/
def sing (s : ByteArray) (i : Nat) : Bool := decide (bat s i = some 37) && (decide (i = 0) || decide (bat s (i - 1) ≠ some 37)) && decide (bat s (i + 1) ≠ some 37)
/-- the last single percent in s[l:r] -/
def lpO (s : ByteArray) (l : Nat) : Nat → Option Nat
  | 0 => none
  | k + 1 => if k < l then none else if sing s k = true then some k else lpO s l k
theorem lpO_below (s : ByteArray) (l k : Nat) (h : k ≤ l) : lpO s l k = none := by
  cases k with
  | zero => rfl
  | succ k => unfold lpO; rw [if_pos (by omega)]
theorem lpO_hit (s : ByteArray) (l k : Nat) (h : l ≤ k) (e : sing s k = true) : lpO s l (k + 1) = some k := by
  unfold lpO; rw [if_neg (by omega), if_pos e]
theorem lpO_miss (s : ByteArray) (l k : Nat) (h : l ≤ k) (e : sing s k = false) : lpO s l (k + 1) = lpO s l k := by
  conv => lhs; unfold lpO
  rw [if_neg (by omega), if_neg (by rw [e]; simp)]
theorem lpO_range (s : ByteArray) (l : Nat) : ∀ r i, lpO s l r = some i → l ≤ i ∧ i < r
  | 0, i, h => by simp [lpO] at h
  | k + 1, i, h => by
    by_cases hl : k < l
    · rw [lpO_below s l (k + 1) (by omega)] at h; exact absurd h (by simp)
    · cases e : sing s k with
      | true => rw [lpO_hit s l k (by omega) e, Option.some.injEq] at h; omega
      | false =>
        rw [lpO_miss s l k (by omega) e] at h
        have := lpO_range s l k i h
        omega
/-- a later start: the same, or nothing is left -/
theorem lpO_later (s : ByteArray) (l0 l : Nat) (hl : l0 ≤ l) : ∀ r, lpO s l r = (match lpO s l0 r with | some i => if l ≤ i then some i else none | none => none)
  | 0 => rfl
  | k + 1 => by
    by_cases h : k < l
    · rw [lpO_below s l (k + 1) (by omega)]
      cases e : lpO s l0 (k + 1) with
      | none => rfl
      | some i =>
        have := lpO_range s l0 (k + 1) i e
        simp only
        rw [if_neg (by omega)]
    · cases e : sing s k with
      | true => rw [lpO_hit s l k (by omega) e, lpO_hit s l0 k (by omega) e]; simp only; rw [if_pos (by omega)]
      | false => rw [lpO_miss s l k (by omega) e, lpO_miss s l0 k (by omega) e]; exact lpO_later s l0 l hl k

/-! ### the candidates as the Go text hands them -/
def domain : ByteArray := ⟨#[100, 111, 109, 97, 105, 110]⟩
def uucp : ByteArray := ⟨#[117, 117, 99, 112]⟩
def kindOf (l : List UInt8) : ByteArray := if has l 46 || has l 91 then domain else uucp
/-- the hop before a bang: its name without a trailing dot, its kind; none: empty -/
def hopN (nm : ByteArray) : ByteArray := if hopOK nm.data.toList then ⟨(Lib.trimSuffix nm.data.toList [46]).toArray⟩ else ⟨#[]⟩
def hopK (nm : ByteArray) : ByteArray := if hopOK nm.data.toList then kindOf nm.data.toList else ⟨#[]⟩
def fbI (s : ByteArray) (l r : Nat) : Int := match bangO s l r with | some b => (b : Int) | none => -1
def fbN (s : ByteArray) (l r : Nat) : ByteArray := match bangO s l r with | some b => hopN (s.extract l b) | none => ⟨#[]⟩
def fbK (s : ByteArray) (l r : Nat) : ByteArray := match bangO s l r with | some b => hopK (s.extract l b) | none => ⟨#[]⟩
def lpI (s : ByteArray) (l r : Nat) : Int := match lpO s l r with | some i => (i : Int) | none => -1
def lpN (s : ByteArray) (l r : Nat) : ByteArray := match lpO s l r with | some i => if hopOK (s.extract (i + 1) r).data.toList then s.extract (i + 1) r else ⟨#[]⟩ | none => ⟨#[]⟩
def canB (s : ByteArray) (l r : Nat) : Bool := decide (0 < (fbN s l r).size) && decide (fbI s l r + 1 < r)
def canP (s : ByteArray) (l r : Nat) : Bool := decide (0 < (lpN s l r).size) && decide ((l : Int) < lpI s l r)

theorem fb_some {s : ByteArray} {l r b : Nat} (h : bangO s l r = some b) : fbI s l r = b ∧ fbN s l r = hopN (s.extract l b) ∧ fbK s l r = hopK (s.extract l b) := by
  unfold fbI fbN fbK; rw [h]; exact ⟨rfl, rfl, rfl⟩
theorem fb_none {s : ByteArray} {l r : Nat} (h : bangO s l r = none) : fbI s l r = -1 ∧ fbN s l r = ⟨#[]⟩ ∧ fbK s l r = ⟨#[]⟩ := by
  unfold fbI fbN fbK; rw [h]; exact ⟨rfl, rfl, rfl⟩
theorem lp_some {s : ByteArray} {l r i : Nat} (h : lpO s l r = some i) : lpI s l r = i ∧ lpN s l r = if hopOK (s.extract (i + 1) r).data.toList then s.extract (i + 1) r else ⟨#[]⟩ := by
  unfold lpI lpN; rw [h]; exact ⟨rfl, rfl⟩
theorem lp_none {s : ByteArray} {l r : Nat} (h : lpO s l r = none) : lpI s l r = -1 ∧ lpN s l r = ⟨#[]⟩ := by
  unfold lpI lpN; rw [h]; exact ⟨rfl, rfl⟩
theorem fbI_range (s : ByteArray) (l r : Nat) : -1 ≤ fbI s l r ∧ fbI s l r ≤ r := by
  rcases bang_spec s l r with ⟨h1, _⟩ | ⟨b, h1, h2⟩
  · rw [(fb_none h1).1]; omega
  · rw [(fb_some h1).1]; have := h2.2.1; omega
theorem lpI_range (s : ByteArray) (l r : Nat) : -1 ≤ lpI s l r ∧ lpI s l r ≤ r := by
  cases h : lpO s l r with
  | none => rw [(lp_none h).1]; omega
  | some i => rw [(lp_some h).1]; have := lpO_range s l r i h; omega
theorem empty_size : (⟨#[]⟩ : ByteArray).size = 0 := rfl

/-- the bang kept from a longer text serves -/
theorem canB_kept (s : ByteArray) (l r r0 : Nat) (hr : r ≤ r0) : (decide (0 < (fbN s l r0).size) && decide (fbI s l r0 + 1 < r)) = canB s l r ∧ (canB s l r = true → fbI s l r0 = fbI s l r ∧ fbN s l r0 = fbN s l r ∧ fbK s l r0 = fbK s l r) := by
  rcases bang_spec s l r0 with ⟨h1, h2⟩ | ⟨b, h1, h2⟩
  · have h3 : bangO s l r = none := bang_none (fun j hj1 hj2 => h2 j hj1 (by omega))
    unfold canB
    rw [(fb_none h1).1, (fb_none h1).2.1, (fb_none h1).2.2, (fb_none h3).1, (fb_none h3).2.1, (fb_none h3).2.2]
    exact ⟨rfl, fun _ => ⟨rfl, rfl, rfl⟩⟩
  · by_cases hb : b < r
    · have h3 : bangO s l r = some b := bang_some ⟨h2.1, hb, h2.2.2.1, h2.2.2.2⟩
      unfold canB
      rw [(fb_some h1).1, (fb_some h1).2.1, (fb_some h1).2.2, (fb_some h3).1, (fb_some h3).2.1, (fb_some h3).2.2]
      exact ⟨rfl, fun _ => ⟨rfl, rfl, rfl⟩⟩
    · have h3 : bangO s l r = none := bang_none (fun j hj1 hj2 => h2.2.2.2 j hj1 (by omega))
      have e1 : decide (fbI s l r0 + 1 < r) = false := by rw [(fb_some h1).1, decide_eq_false_iff_not]; omega
      have e2 : canB s l r = false := by unfold canB; rw [(fb_none h3).2.1, empty_size]; simp
      rw [e1, e2, Bool.and_false]
      exact ⟨rfl, fun h => absurd h (by simp)⟩
/-- the percent kept from an earlier start serves -/
theorem canP_kept (s : ByteArray) (l0 l r : Nat) (hl : l0 ≤ l) : (decide (0 < (lpN s l0 r).size) && decide ((l : Int) < lpI s l0 r)) = canP s l r ∧ (canP s l r = true → lpI s l0 r = lpI s l r ∧ lpN s l0 r = lpN s l r) := by
  have h := lpO_later s l0 l hl r
  cases h0 : lpO s l0 r with
  | none =>
    rw [h0] at h
    unfold canP
    rw [(lp_none h0).1, (lp_none h0).2, (lp_none h).1, (lp_none h).2]
    exact ⟨rfl, fun _ => ⟨rfl, rfl⟩⟩
  | some i =>
    rw [h0] at h
    simp only at h
    by_cases hi : l ≤ i
    · rw [if_pos hi] at h
      unfold canP
      rw [(lp_some h0).1, (lp_some h0).2, (lp_some h).1, (lp_some h).2]
      exact ⟨rfl, fun _ => ⟨rfl, rfl⟩⟩
    · rw [if_neg hi] at h
      have e1 : decide ((l : Int) < lpI s l0 r) = false := by rw [(lp_some h0).1, decide_eq_false_iff_not]; omega
      have e2 : canP s l r = false := by unfold canP; rw [(lp_none h).2, empty_size]; simp
      rw [e1, e2, Bool.and_false]
      exact ⟨rfl, fun h => absurd h (by simp)⟩

/-! ### the reading -/
/-- all steps: the hops, and what is left -/
def rd (s : ByteArray) (pf : Bool) : Nat → Nat → Nat → List (ByteArray × ByteArray) × Nat × Nat
  | 0, l, r => ([], l, r)
  | f + 1, l, r =>
    if canP s l r && (pf || !canB s l r) then ((lpN s l r, domain) :: (rd s pf f l (lpI s l r).toNat).1, (rd s pf f l (lpI s l r).toNat).2)
    else if canB s l r then ((fbN s l r, fbK s l r) :: (rd s pf f ((fbI s l r).toNat + 1) r).1, (rd s pf f ((fbI s l r).toNat + 1) r).2)
    else ([], l, r)
theorem rd_P {s : ByteArray} {pf : Bool} {f l r : Nat} (h : (canP s l r && (pf || !canB s l r)) = true) : rd s pf (f + 1) l r = ((lpN s l r, domain) :: (rd s pf f l (lpI s l r).toNat).1, (rd s pf f l (lpI s l r).toNat).2) := by
  conv => lhs; unfold rd
  rw [if_pos h]
theorem rd_B {s : ByteArray} {pf : Bool} {f l r : Nat} (h : (canP s l r && (pf || !canB s l r)) = false) (hb : canB s l r = true) : rd s pf (f + 1) l r = ((fbN s l r, fbK s l r) :: (rd s pf f ((fbI s l r).toNat + 1) r).1, (rd s pf f ((fbI s l r).toNat + 1) r).2) := by
  conv => lhs; unfold rd
  rw [if_neg (by rw [h]; simp), if_pos hb]
theorem rd_stop {s : ByteArray} {pf : Bool} {f l r : Nat} (h : (canP s l r && (pf || !canB s l r)) = false) (hb : canB s l r = false) : rd s pf (f + 1) l r = ([], l, r) := by
  conv => lhs; unfold rd
  rw [if_neg (by rw [h]; simp), if_neg (by rw [hb]; simp)]

theorem canB_range {s : ByteArray} {l r : Nat} (h : canB s l r = true) : ∃ b : Nat, fbI s l r = b ∧ l ≤ b ∧ b + 1 < r := by
  unfold canB at h
  rw [Bool.and_eq_true, decide_eq_true_iff, decide_eq_true_iff] at h
  rcases bang_spec s l r with ⟨h1, _⟩ | ⟨b, h1, h2⟩
  · rw [(fb_none h1).2.1, empty_size] at h; exact absurd h.1 (by omega)
  · have e := (fb_some h1).1
    exact ⟨b, e, h2.1, by have := h.2; rw [e] at this; omega⟩
theorem canP_range {s : ByteArray} {l r : Nat} (h : canP s l r = true) : ∃ i : Nat, lpI s l r = i ∧ l < i ∧ i < r := by
  unfold canP at h
  rw [Bool.and_eq_true, decide_eq_true_iff, decide_eq_true_iff] at h
  cases h0 : lpO s l r with
  | none => rw [(lp_none h0).2, empty_size] at h; exact absurd h.1 (by omega)
  | some i =>
    have e := (lp_some h0).1
    have := lpO_range s l r i h0
    exact ⟨i, e, by have := h.2; rw [e] at this; omega, this.2⟩

end Go.Proofs.Qxb6002905a
