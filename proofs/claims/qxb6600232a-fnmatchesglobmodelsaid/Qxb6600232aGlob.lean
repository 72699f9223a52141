namespace Go.Proofs.Qxb6600232a.Glob

/-- p matches s whole; 42 ('*') stands for any run of bytes. -/
def M : List UInt8 → List UInt8 → Prop
  | [], s => s = []
  | c :: p, s => if c = 42 then ∃ k, M p (s.drop k) else ∃ s', s = c :: s' ∧ M p s'

theorem M_nil (s : List UInt8) : M [] s ↔ s = [] := Iff.rfl
theorem M_star (p s : List UInt8) : M (42 :: p) s ↔ ∃ k, M p (s.drop k) := by simp [M]
theorem M_lit (c : UInt8) (p s : List UInt8) (h : c ≠ 42) : M (c :: p) s ↔ ∃ s', s = c :: s' ∧ M p s' := by simp [M, h]

theorem M_append : ∀ (p q s : List UInt8), M (p ++ q) s ↔ ∃ k, k ≤ s.length ∧ M p (s.take k) ∧ M q (s.drop k)
  | [], q, s => by
    constructor
    · intro h; exact ⟨0, Nat.zero_le _, by simp [M], by simpa using h⟩
    · rintro ⟨k, hk, h1, h2⟩
      rw [M_nil] at h1
      have : k = 0 ∨ s = [] := by
        rcases s with _ | ⟨a, t⟩
        · exact Or.inr rfl
        · rcases k with _ | k
          · exact Or.inl rfl
          · simp at h1
      rcases this with rfl | rfl
      · simpa using h2
      · simpa using h2
  | c :: p, q, s => by
    by_cases hc : c = 42
    · subst hc
      rw [List.cons_append, M_star]
      constructor
      · rintro ⟨j, h⟩
        rw [M_append p q] at h
        obtain ⟨k, hk, h1, h2⟩ := h
        rw [List.length_drop] at hk
        by_cases hj : j ≤ s.length
        · refine ⟨j + k, by omega, ?_, ?_⟩
          · rw [M_star]; refine ⟨j, ?_⟩
            rw [List.drop_take]
            have : j + k - j = k := by omega
            rw [this]; exact h1
          · rw [List.drop_drop] at h2; exact h2
        · refine ⟨s.length, Nat.le_refl _, ?_, ?_⟩
          · rw [M_star]; refine ⟨s.length, ?_⟩
            have e : s.drop j = [] := List.drop_of_length_le (by omega)
            rw [e] at h1
            simpa using h1
          · have e : s.drop j = [] := List.drop_of_length_le (by omega)
            rw [e] at h2
            simpa using h2
      · rintro ⟨k, hk, h1, h2⟩
        rw [M_star] at h1
        obtain ⟨j, h1⟩ := h1
        rw [List.drop_take] at h1
        by_cases hj : j ≤ k
        · refine ⟨j, ?_⟩
          rw [M_append p q]
          refine ⟨k - j, by rw [List.length_drop]; omega, h1, ?_⟩
          rw [List.drop_drop]
          have : j + (k - j) = k := by omega
          rw [this]; exact h2
        · refine ⟨k, ?_⟩
          rw [M_append p q]
          have : k - j = 0 := by omega
          rw [this] at h1
          exact ⟨0, Nat.zero_le _, by simpa using h1, by simpa using h2⟩
    · rw [List.cons_append, M_lit _ _ _ hc]
      constructor
      · rintro ⟨s', rfl, h⟩
        rw [M_append p q] at h
        obtain ⟨k, hk, h1, h2⟩ := h
        refine ⟨k + 1, by simp; omega, ?_, by simpa using h2⟩
        rw [M_lit _ _ _ hc]
        exact ⟨s'.take k, by simp, h1⟩
      · rintro ⟨k, hk, h1, h2⟩
        rw [M_lit _ _ _ hc] at h1
        obtain ⟨s1, e1, h1⟩ := h1
        rcases s with _ | ⟨a, t⟩
        · simp at e1
        · rcases k with _ | k
          · simp at e1
          · simp only [List.take_succ_cons, List.cons.injEq] at e1
            obtain ⟨rfl, rfl⟩ := e1
            refine ⟨t, rfl, ?_⟩
            rw [M_append p q]
            exact ⟨k, by simpa using hk, h1, by simpa using h2⟩

theorem M_star_all (s : List UInt8) : M [42] s := by
  rw [M_star]; exact ⟨s.length, by simp [M]⟩

theorem M_star_mono (p s : List UInt8) (k : Nat) (h : M (42 :: p) (s.drop k)) : M (42 :: p) s := by
  rw [M_star] at h ⊢
  obtain ⟨j, h⟩ := h
  exact ⟨k + j, by rw [List.drop_drop] at h; exact h⟩

/-- unanchored = with a star behind it -/
theorem M_un (p s : List UInt8) : M (p ++ [42]) s ↔ ∃ k, k ≤ s.length ∧ M p (s.take k) := by
  rw [M_append]
  constructor
  · rintro ⟨k, hk, h, _⟩; exact ⟨k, hk, h⟩
  · rintro ⟨k, hk, h⟩; exact ⟨k, hk, h, M_star_all _⟩

theorem M_plain (p s : List UInt8) (hp : 42 ∉ p) : M p s ↔ s = p := by
  induction p generalizing s with
  | nil => rw [M_nil]
  | cons c p ih =>
    have hc : c ≠ 42 := by intro e; exact hp (by simp [e])
    rw [M_lit _ _ _ hc]
    have hp' : 42 ∉ p := fun h => hp (List.mem_cons_of_mem _ h)
    constructor
    · rintro ⟨s', rfl, h⟩
      rw [(ih s' hp').1 h]
    · rintro rfl
      exact ⟨p, rfl, (ih p hp').2 rfl⟩

theorem M_plain_append (p q s : List UInt8) (hp : 42 ∉ p) : M (p ++ q) s ↔ p.isPrefixOf s = true ∧ M q (s.drop p.length) := by
  rw [M_append]
  constructor
  · rintro ⟨k, hk, h1, h2⟩
    rw [M_plain _ _ hp] at h1
    have hl : p.length = k := by rw [← h1]; simp; omega
    refine ⟨?_, by rw [hl]; exact h2⟩
    rw [List.isPrefixOf_iff_prefix, ← h1]
    exact List.take_prefix _ _
  · rintro ⟨h1, h2⟩
    rw [List.isPrefixOf_iff_prefix] at h1
    obtain ⟨t, rfl⟩ := h1
    refine ⟨p.length, by simp, ?_, h2⟩
    rw [M_plain _ _ hp]; simp

theorem M_star_part (part q s : List UInt8) (hp : 42 ∉ part) : M (42 :: (part ++ q)) s ↔ ∃ k, part.isPrefixOf (s.drop k) = true ∧ M q (s.drop (k + part.length)) := by
  rw [M_star]
  constructor
  · rintro ⟨k, h⟩
    rw [M_plain_append _ _ _ hp, List.drop_drop] at h
    exact ⟨k, h⟩
  · rintro ⟨k, h⟩
    exact ⟨k, by rw [M_plain_append _ _ _ hp, List.drop_drop]; exact h⟩

/-- snoc forms, for the table -/
theorem M_snoc_star (p s : List UInt8) : M (p ++ [42]) s ↔ ∃ k, k ≤ s.length ∧ M p (s.take k) := M_un p s

theorem M_snoc_lit (p s : List UInt8) (c : UInt8) (hc : c ≠ 42) : M (p ++ [c]) s ↔ ∃ t, s = t ++ [c] ∧ M p t := by
  rw [M_append]
  constructor
  · rintro ⟨k, hk, h1, h2⟩
    rw [M_lit _ _ _ hc] at h2
    obtain ⟨s', e, h2⟩ := h2
    rw [M_nil] at h2
    subst h2
    exact ⟨s.take k, by rw [← e]; simp, h1⟩
  · rintro ⟨t, rfl, h⟩
    refine ⟨t.length, by simp, by simpa using h, ?_⟩
    rw [M_lit _ _ _ hc]
    exact ⟨[], by simp, by simp [M]⟩

end Go.Proofs.Qxb6600232a.Glob
