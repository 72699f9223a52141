namespace Go.Proofs.Qxb6003232a.Rec

/-- quotes among the first k -/
def qs (l : List Int) (k : Nat) : Nat := (l.take k).count 34

/-- the end of the last line break among the first k behind an even number of quotes -/
def rE (l : List Int) : Nat → Nat
  | 0 => 0
  | k + 1 => if l[k]? = some 10 ∧ qs l k % 2 = 0 then k + 1 else rE l k

def rEnd (l : List Int) : Nat := rE l l.length

theorem qs_zero (l : List Int) : qs l 0 = 0 := by simp [qs]
theorem qs_le (l : List Int) (k : Nat) : qs l k ≤ k := by
  unfold qs
  have := List.count_le_length (a := (34 : Int)) (l := l.take k)
  simp at this
  omega
theorem qs_succ (l : List Int) (k : Nat) (h : k < l.length) : qs l (k + 1) = qs l k + if l[k] = 34 then 1 else 0 := by
  unfold qs
  rw [List.take_succ_eq_append_getElem h, List.count_append]
  simp [List.count_singleton]
theorem qs_mono (l : List Int) (i j : Nat) (h : i ≤ j) : qs l i ≤ qs l j := by
  unfold qs
  exact List.Sublist.count_le _ (List.take_sublist_take_left h)

/-- the quotes of a cut -/
theorem qs_cut (l : List Int) (i j : Nat) (h : i ≤ j) : ((l.drop i).take (j - i)).count 34 = qs l j - qs l i := by
  unfold qs
  have e : l.take j = l.take i ++ (l.drop i).take (j - i) := by
    rw [← List.take_append_drop i (l.take j), List.take_take, List.drop_take, Nat.min_eq_left h]
  rw [e, List.count_append]
  omega

theorem rE_le (l : List Int) (k : Nat) : rE l k ≤ k := by
  induction k with
  | zero => simp [rE]
  | succ k ih => unfold rE; split <;> omega

theorem rE_hit (l : List Int) (k : Nat) (h1 : l[k]? = some 10) (h2 : qs l k % 2 = 0) : rE l (k + 1) = k + 1 := by
  unfold rE; rw [if_pos ⟨h1, h2⟩]
theorem rE_miss (l : List Int) (k : Nat) (h : ¬ (l[k]? = some 10 ∧ qs l k % 2 = 0)) : rE l (k + 1) = rE l k := by
  conv => lhs; unfold rE
  rw [if_neg h]

/-- no line break from i up to j: the same -/
theorem rE_skip (l : List Int) (i : Nat) : ∀ (j : Nat), i ≤ j → (∀ t, i ≤ t → t < j → l[t]? ≠ some 10) → rE l j = rE l i
  | 0, h, _ => by have : i = 0 := by omega
                  rw [this]
  | j + 1, h, hn => by
    by_cases e : i = j + 1
    · rw [e]
    · rw [rE_miss l j (fun hh => hn j (by omega) (by omega) hh.1)]
      exact rE_skip l i j (by omega) (fun t h1 h2 => hn t h1 (by omega))

/-- it hangs on the first k alone -/
theorem qs_congr (l m : List Int) (k : Nat) (h : l.take k = m.take k) : ∀ j, j ≤ k → qs l j = qs m j := by
  intro j hj
  unfold qs
  have : l.take j = m.take j := by
    have := congrArg (List.take j) h
    simpa [List.take_take, Nat.min_eq_left hj] using this
  rw [this]
theorem rE_congr (l m : List Int) (k : Nat) (h : l.take k = m.take k) : ∀ j, j ≤ k → rE l j = rE m j
  | 0, _ => rfl
  | j + 1, hj => by
    have h1 : l[j]? = m[j]? := by
      have a : (l.take k)[j]? = l[j]? := by rw [List.getElem?_take]; simp; omega
      have b : (m.take k)[j]? = m[j]? := by rw [List.getElem?_take]; simp; omega
      rw [← a, ← b, h]
    have h2 : qs l j = qs m j := qs_congr l m k h j (by omega)
    have ih := rE_congr l m k h j (by omega)
    unfold rE
    rw [h1, h2, ih]

theorem rE_mono (l : List Int) (i : Nat) : ∀ j, i ≤ j → rE l i ≤ rE l j
  | 0, h => by have : i = 0 := by omega
               rw [this]; exact Nat.le_refl _
  | j + 1, h => by
    by_cases e : i = j + 1
    · rw [e]; exact Nat.le_refl _
    · have ih := rE_mono l i j (by omega)
      have hle := rE_le l i
      by_cases hh : l[j]? = some 10 ∧ qs l j % 2 = 0
      · rw [rE_hit l j hh.1 hh.2]; omega
      · rw [rE_miss l j hh]; exact ih

/-- the value at its own end -/
theorem rE_self (l : List Int) : ∀ k, rE l (rE l k) = rE l k
  | 0 => rfl
  | k + 1 => by
    by_cases hh : l[k]? = some 10 ∧ qs l k % 2 = 0
    · rw [rE_hit l k hh.1 hh.2, rE_hit l k hh.1 hh.2]
    · rw [rE_miss l k hh]; exact rE_self l k

/-- the cut-off head is itself whole -/
theorem rEnd_take (l : List Int) : rEnd (l.take (rEnd l)) = rEnd l := by
  have hle : rEnd l ≤ l.length := rE_le l _
  unfold rEnd at hle ⊢
  rw [List.length_take, Nat.min_eq_left hle]
  rw [rE_congr (l.take (rE l l.length)) l (rE l l.length) (by rw [List.take_take, Nat.min_self]) _ (Nat.le_refl _)]
  exact rE_self l _

theorem rEnd_append_ge (l t : List Int) : rEnd l ≤ rEnd (l ++ t) := by
  unfold rEnd
  rw [rE_congr l (l ++ t) l.length (by simp) _ (Nat.le_refl _)]
  exact rE_mono _ _ _ (by simp)

theorem rEnd_append_eq (l t : List Int) (h : 10 ∉ t) : rEnd (l ++ t) = rEnd l := by
  unfold rEnd
  rw [rE_congr l (l ++ t) l.length (by simp) _ (Nat.le_refl _)]
  refine rE_skip _ _ _ (by simp) ?_
  intro j h1 h2 h3
  rw [List.getElem?_append_right h1] at h3
  exact h (List.mem_of_getElem? h3)

/-- the last line break among the first k, or -1 -/
def lastI (l : List Int) : Nat → Int
  | 0 => -1
  | k + 1 => if l[k]? = some 10 then (k : Int) else lastI l k

theorem lastI_hit (l : List Int) (k : Nat) (h : l[k]? = some 10) : lastI l (k + 1) = k := by unfold lastI; rw [if_pos h]
theorem lastI_miss (l : List Int) (k : Nat) (h : l[k]? ≠ some 10) : lastI l (k + 1) = lastI l k := by
  conv => lhs; unfold lastI
  rw [if_neg h]
theorem lastI_spec (l : List Int) : ∀ k, (lastI l k = -1 ∧ ∀ t, t < k → l[t]? ≠ some 10) ∨ ∃ i : Nat, lastI l k = i ∧ i < k ∧ l[i]? = some 10 ∧ ∀ t, i < t → t < k → l[t]? ≠ some 10
  | 0 => Or.inl ⟨rfl, fun t h => absurd h (by omega)⟩
  | k + 1 => by
    by_cases h : l[k]? = some 10
    · exact Or.inr ⟨k, lastI_hit l k h, by omega, h, fun t h1 h2 => absurd h1 (by omega)⟩
    · rw [lastI_miss l k h]
      rcases lastI_spec l k with ⟨h1, h2⟩ | ⟨i, h1, h2, h3, h4⟩
      · refine Or.inl ⟨h1, fun t ht => ?_⟩
        by_cases e : t = k
        · rw [e]; exact h
        · exact h2 t (by omega)
      · refine Or.inr ⟨i, h1, by omega, h3, fun t ht1 ht2 => ?_⟩
        by_cases e : t = k
        · rw [e]; exact h
        · exact h4 t ht1 (by omega)

/-- none: 0 -/
theorem rE_none (l : List Int) (k : Nat) (h : ∀ t, t < k → l[t]? ≠ some 10) : rE l k = 0 :=
  (rE_skip l 0 k (Nat.zero_le _) (fun t _ h2 => h t h2)).trans rfl
/-- the last line break decides, or what is ahead of it -/
theorem rE_last (l : List Int) (k i : Nat) (hi : i < k) (h10 : l[i]? = some 10) (h : ∀ t, i < t → t < k → l[t]? ≠ some 10) : rE l k = if qs l i % 2 = 0 then i + 1 else rE l i := by
  rw [rE_skip l (i + 1) k (by omega) (fun t h1 h2 => h t (by omega) h2)]
  by_cases e : qs l i % 2 = 0
  · rw [rE_hit l i h10 e, if_pos e]
  · rw [rE_miss l i (fun hh => e hh.2), if_neg e]

end Go.Proofs.Qxb6003232a.Rec
