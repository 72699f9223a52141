/-
  THE GREEDY MATCHER, PLAIN: each part at its earliest place; it answers as the glob relation does.
-/
import Derived.Test.Qxb6600232aGlob
import Derived.Lib.IndexMore
import Derived.Lib.Strings
namespace Go.Proofs.Qxb6600232a.Glob
open Go

theorem suf_of (q : List UInt8) (c : UInt8) : Lib.hasSuffix (q ++ [c]) [c] = true := by
  unfold Lib.hasSuffix
  rw [List.isSuffixOf_iff_suffix]
  exact List.suffix_append _ _
theorem suf_split {p : List UInt8} {c : UInt8} (h : Lib.hasSuffix p [c] = true) : ∃ q, p = q ++ [c] := by
  unfold Lib.hasSuffix at h
  rw [List.isSuffixOf_iff_suffix] at h
  obtain ⟨q, hq⟩ := h
  exact ⟨q, hq.symm⟩
theorem trim_of (q : List UInt8) (c : UInt8) : Lib.trimSuffix (q ++ [c]) [c] = q := by
  unfold Lib.trimSuffix
  rw [if_pos (suf_of q c)]
  simp
theorem trim_no {p : List UInt8} {c : UInt8} (h : Lib.hasSuffix p [c] = false) : Lib.trimSuffix p [c] = p := by
  unfold Lib.trimSuffix
  rw [if_neg (by rw [h]; simp)]

/-- the star that stands for 'not anchored' -/
def star (anch : Bool) : List UInt8 := if anch then [] else [42]

/-- the loop over the parts -/
def gr (anch : Bool) : Nat → List UInt8 → List UInt8 → Bool
  | 0, _, _ => false
  | f + 1, rest, left =>
    if (Lib.cut rest [42]).2.2 then
      (if Lib.index left (Lib.cut rest [42]).1 < 0 then false
       else gr anch f (Lib.cut rest [42]).2.1 (left.drop ((Lib.index left (Lib.cut rest [42]).1).toNat + (Lib.cut rest [42]).1.length)))
    else if anch then Lib.hasSuffix left (Lib.cut rest [42]).1 else Lib.contains left (Lib.cut rest [42]).1

/-- a cut at a star -/
theorem cut_star (rest : List UInt8) : (Lib.cut rest [42] = (rest, [], false) ∧ 42 ∉ rest) ∨ ∃ part after, Lib.cut rest [42] = (part, after, true) ∧ rest = part ++ 42 :: after ∧ 42 ∉ part := by
  rcases Lib.index_spec rest [42] with ⟨h1, h2⟩ | ⟨i, h1, h2, h3, h4⟩
  · refine Or.inl ⟨?_, ?_⟩
    · unfold Lib.cut; rw [h1]; rfl
    · intro hm
      obtain ⟨k, hk, hk2⟩ := List.getElem_of_mem hm
      have := h2 k (by omega)
      unfold Lib.occAt at this
      rw [List.drop_eq_getElem_cons hk, hk2] at this
      simp at this
  · have hc : Lib.cut rest [42] = (rest.take i, rest.drop (i + 1), true) := by
      unfold Lib.cut; rw [h1, if_pos (by omega)]; simp
    have hlt : i < rest.length := by
      unfold Lib.occAt at h3
      rcases Nat.lt_or_ge i rest.length with h' | h'
      · exact h'
      · rw [List.drop_of_length_le h'] at h3; simp at h3
    have hat : rest[i] = 42 := by
      unfold Lib.occAt at h3
      rw [List.isPrefixOf_iff_prefix] at h3
      obtain ⟨u, hu⟩ := h3
      rw [List.drop_eq_getElem_cons hlt, List.singleton_append, List.cons.injEq] at hu
      exact hu.1.symm
    refine Or.inr ⟨rest.take i, rest.drop (i + 1), hc, ?_, ?_⟩
    · rw [← hat, ← List.drop_eq_getElem_cons hlt, List.take_append_drop]
    · intro hm
      obtain ⟨k, hk, hk2⟩ := List.getElem_of_mem hm
      rw [List.length_take] at hk
      have hk3 : rest[k]'(by omega) = 42 := by rw [List.getElem_take] at hk2; exact hk2
      have := h4 k (by omega)
      unfold Lib.occAt at this
      rw [List.drop_eq_getElem_cons (by omega), hk3] at this
      simp at this

theorem prefix_le {p s : List UInt8} (h : p.isPrefixOf s = true) : p.length ≤ s.length := by
  rw [List.isPrefixOf_iff_prefix] at h
  exact h.length_le

/-- the greedy loop answers as the relation does -/
theorem gr_iff (anch : Bool) : ∀ (f : Nat) (rest left : List UInt8), rest.length < f → (gr anch f rest left = true ↔ M (42 :: (rest ++ star anch)) left)
  | 0, rest, left, h => absurd h (by omega)
  | f + 1, rest, left, h => by
    rcases cut_star rest with ⟨hc, hn⟩ | ⟨part, after, hc, hr, hn⟩
    · have e : gr anch (f + 1) rest left = if anch then Lib.hasSuffix left rest else Lib.contains left rest := by
        conv => lhs; unfold gr
        rw [hc]
        rfl
      rw [e]
      cases anch with
      | true =>
        simp only [if_true, star, List.append_nil]
        unfold Lib.hasSuffix
        rw [List.isSuffixOf_iff_suffix, M_star]
        constructor
        · rintro ⟨q, rfl⟩
          exact ⟨q.length, by rw [M_plain _ _ hn]; simp⟩
        · rintro ⟨k, hk⟩
          rw [M_plain _ _ hn] at hk
          rw [← hk]
          exact List.drop_suffix _ _
      | false =>
        simp only [Bool.false_eq_true, if_false, star]
        rw [M_star_part _ _ _ hn]
        unfold Lib.contains
        rw [decide_eq_true_iff]
        constructor
        · intro hi
          rcases Lib.index_spec left rest with ⟨h1, _⟩ | ⟨i, h1, h2, h3, _⟩
          · omega
          · exact ⟨i, h3, M_star_all _⟩
        · rintro ⟨k, hk, _⟩
          rcases Lib.index_spec left rest with ⟨h1, h2⟩ | ⟨i, h1, _⟩
          · exfalso
            by_cases hk2 : k ≤ left.length
            · have := h2 k hk2
              unfold Lib.occAt at this
              rw [this] at hk
              exact absurd hk (by simp)
            · rw [List.drop_of_length_le (by omega)] at hk
              have h3 := h2 left.length (Nat.le_refl _)
              unfold Lib.occAt at h3
              rw [List.drop_length, hk] at h3
              exact absurd h3 (by simp)
          · omega
    · have e : gr anch (f + 1) rest left = if Lib.index left part < 0 then false else gr anch f after (left.drop ((Lib.index left part).toNat + part.length)) := by
        conv => lhs; unfold gr
        rw [hc]
        rfl
      have hlen : after.length < f := by
        have := congrArg List.length hr
        simp at this
        omega
      rw [e, hr]
      have eq1 : 42 :: (part ++ 42 :: after ++ star anch) = 42 :: (part ++ (42 :: (after ++ star anch))) := by simp
      rw [eq1, M_star_part _ _ _ hn]
      rcases Lib.index_spec left part with ⟨h1, h2⟩ | ⟨i, h1, h2, h3, h4⟩
      · rw [if_pos (by omega)]
        constructor
        · intro hf; exact absurd hf (by simp)
        · rintro ⟨k, hk, _⟩
          exfalso
          by_cases hk2 : k ≤ left.length
          · have := h2 k hk2
            unfold Lib.occAt at this
            rw [this] at hk
            exact absurd hk (by simp)
          · rw [List.drop_of_length_le (by omega)] at hk
            have h3 := h2 left.length (Nat.le_refl _)
            unfold Lib.occAt at h3
            rw [List.drop_length, hk] at h3
            exact absurd h3 (by simp)
      · rw [if_neg (by omega), h1, Int.toNat_natCast, gr_iff anch f after _ hlen]
        constructor
        · intro hm; exact ⟨i, h3, hm⟩
        · rintro ⟨k, hk, hm⟩
          by_cases hik : i ≤ k
          · have e2 : left.drop (k + part.length) = (left.drop (i + part.length)).drop (k - i) := by
              rw [List.drop_drop]; congr 1; omega
            rw [e2] at hm
            exact M_star_mono _ _ _ hm
          · exfalso
            have := h4 k (by omega)
            unfold Lib.occAt at this
            rw [this] at hk
            exact absurd hk (by simp)

/-- the literal head -/
def lpre (p : List UInt8) : List UInt8 := if Lib.indexByte p 42 < 0 then Lib.trimSuffix p [36] else p.take (Lib.indexByte p 42).toNat
/-- matches, as the Go text has it -/
def mat (p s : List UInt8) : Bool :=
  if Lib.hasPrefix s (lpre p) then
    (if (Lib.trimSuffix (p.drop (lpre p).length) [36]).isEmpty then !Lib.hasSuffix (p.drop (lpre p).length) [36] || (s.drop (lpre p).length).isEmpty
     else gr (Lib.hasSuffix (p.drop (lpre p).length) [36]) ((Lib.trimSuffix (p.drop (lpre p).length) [36]).length + 1) ((Lib.trimSuffix (p.drop (lpre p).length) [36]).drop 1) (s.drop (lpre p).length))
  else false

theorem idx42 (p : List UInt8) : (Lib.indexByte p 42 < 0 ∧ 42 ∉ p) ∨ ∃ q t, p = q ++ 42 :: t ∧ 42 ∉ q ∧ Lib.indexByte p 42 = (q.length : Nat) := by
  have hge := Lib.indexByte_ge p 42
  by_cases h : Lib.indexByte p 42 = -1
  · refine Or.inl ⟨by omega, fun hm => ?_⟩
    obtain ⟨k, hk, hk2⟩ := List.getElem_of_mem hm
    exact absurd (by rw [List.getElem?_eq_getElem hk, hk2]) (Lib.indexByte_none h k)
  · obtain ⟨i, e1⟩ : ∃ i : Nat, Lib.indexByte p 42 = i := ⟨(Lib.indexByte p 42).toNat, by omega⟩
    obtain ⟨h1, h2⟩ := Lib.indexByte_some e1
    obtain ⟨hlt, hat⟩ := List.getElem?_eq_some_iff.1 h1
    refine Or.inr ⟨p.take i, p.drop (i + 1), ?_, ?_, ?_⟩
    · rw [← hat, ← List.drop_eq_getElem_cons hlt, List.take_append_drop]
    · intro hm
      obtain ⟨k, hk, hk2⟩ := List.getElem_of_mem hm
      rw [List.length_take] at hk
      rw [List.getElem_take] at hk2
      exact h2 k (by omega) (by rw [List.getElem?_eq_getElem (by omega), hk2])
    · rw [List.length_take]; omega

theorem suf_append (q t : List UInt8) (h : t ≠ []) (c : UInt8) : Lib.hasSuffix (q ++ t) [c] = Lib.hasSuffix t [c] := by
  rw [Bool.eq_iff_iff]
  constructor
  · intro h1
    obtain ⟨u, hu⟩ := suf_split h1
    have ht : t = t.dropLast ++ [t.getLast h] := (List.dropLast_concat_getLast h).symm
    rw [ht, ← List.append_assoc] at hu
    have hd : [t.getLast h] = [c] := (List.append_inj' hu rfl).2
    rw [ht, hd]
    exact suf_of _ c
  · intro h1
    obtain ⟨u, hu⟩ := suf_split h1
    rw [hu, ← List.append_assoc]
    exact suf_of _ c

/-- the body of a pattern: without the dollar that anchors it -/
theorem mat_iff (p s : List UInt8) : mat p s = true ↔ M (Lib.trimSuffix p [36] ++ star (Lib.hasSuffix p [36])) s := by
  rcases idx42 p with ⟨hi, hn⟩ | ⟨q, t, rfl, hn, hi⟩
  · have hl : lpre p = Lib.trimSuffix p [36] := by unfold lpre; rw [if_pos hi]
    cases hs : Lib.hasSuffix p [36] with
    | true =>
      obtain ⟨q, rfl⟩ := suf_split hs
      have hq : 42 ∉ q := fun h => hn (List.mem_append_left _ h)
      have hl2 : lpre (q ++ [36]) = q := by rw [hl, trim_of]
      unfold mat
      rw [hl2, List.drop_left, trim_of, show Lib.trimSuffix [36] [36] = [] from by decide, show Lib.hasSuffix [36] [36] = true from by decide]
      unfold Lib.hasPrefix star
      simp only [if_true]
      rw [M_plain_append _ _ _ hq, M_nil]
      cases hp : q.isPrefixOf s with
      | true => simp
      | false => simp
    | false =>
      have hl2 : lpre p = p := by rw [hl, trim_no hs]
      unfold mat
      rw [hl2, List.drop_length, trim_no hs, show Lib.trimSuffix [] [36] = [] from by decide, show Lib.hasSuffix [] [36] = false from by decide]
      unfold Lib.hasPrefix star
      simp only [Bool.false_eq_true, if_false]
      rw [M_plain_append _ _ _ hn]
      have := M_star_all (s.drop p.length)
      cases hp : p.isPrefixOf s with
      | true => simp [this]
      | false => simp
  · have hl : lpre (q ++ 42 :: t) = q := by unfold lpre; rw [hi, if_neg (by omega)]; simp
    have hsuf : Lib.hasSuffix (q ++ 42 :: t) [36] = Lib.hasSuffix (42 :: t) [36] := suf_append q (42 :: t) (by simp) 36
    unfold mat
    rw [hl, List.drop_left, hsuf]
    unfold Lib.hasPrefix
    have key : ∀ (t' : List UInt8) (an : Bool), Lib.trimSuffix (42 :: t) [36] = 42 :: t' → Lib.trimSuffix (q ++ 42 :: t) [36] = q ++ 42 :: t' →
        ((if q.isPrefixOf s then (if (Lib.trimSuffix (42 :: t) [36]).isEmpty then !an || (s.drop q.length).isEmpty else gr an ((Lib.trimSuffix (42 :: t) [36]).length + 1) ((Lib.trimSuffix (42 :: t) [36]).drop 1) (s.drop q.length)) else false) = true ↔ M (Lib.trimSuffix (q ++ 42 :: t) [36] ++ star an) s) := by
      intro t' an h1 h2
      rw [h1, h2]
      have e3 : q ++ 42 :: t' ++ star an = q ++ (42 :: (t' ++ star an)) := by simp
      rw [e3, M_plain_append _ _ _ hn]
      have := gr_iff an ((42 :: t').length + 1) t' (s.drop q.length) (by simp; omega)
      cases hp : q.isPrefixOf s with
      | true => simpa using this
      | false => simp
    cases hs : Lib.hasSuffix (42 :: t) [36] with
    | true =>
      obtain ⟨u, hu⟩ := suf_split hs
      cases u with
      | nil => simp at hu
      | cons a u =>
        simp only [List.cons_append, List.cons.injEq] at hu
        obtain ⟨rfl, rfl⟩ := hu
        refine key u true ?_ ?_
        · exact trim_of (42 :: u) 36
        · have e : q ++ 42 :: (u ++ [36]) = (q ++ 42 :: u) ++ [36] := by simp
          rw [e]; exact trim_of _ 36
    | false => exact key t false (trim_no hs) (trim_no (by rw [hsuf]; exact hs))

end Go.Proofs.Qxb6600232a.Glob
