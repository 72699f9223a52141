namespace Go.Proofs.Qxb6002905a.Unq

/-- the offset of the first double quote that no backslash quotes -/
def clos : List UInt8 → Option Nat
  | [] => none
  | [c] => if c = 34 then some 0 else none
  | c :: d :: t => if c = 34 then some 0 else if c = 92 then (clos t).map (· + 2) else (clos (d :: t)).map (· + 1)

/-- each backslash dropped, the byte behind it kept; 'none' where a backslash ends the text -/
def unq : List UInt8 → Option (List UInt8)
  | [] => some []
  | [c] => if c = 92 then none else some [c]
  | c :: d :: t => if c = 92 then (unq t).map (d :: ·) else (unq (d :: t)).map (c :: ·)

/-- the one-pass machine -/
def mdl : Bool → List UInt8 → Option (List UInt8)
  | false, [] => some []
  | true, [] => none
  | false, c :: t => if c = 34 then mdl true t else (mdl false t).map (c :: ·)
  | true, [c] => if c = 34 then some [] else none
  | true, c :: d :: t => if c = 34 then mdl false (d :: t) else if c = 92 then (mdl true t).map (d :: ·) else (mdl true (d :: t)).map (c :: ·)

theorem clos_nil : clos [] = none := by simp [clos]
theorem clos_dq (t : List UInt8) : clos (34 :: t) = some 0 := by cases t <;> simp [clos]
theorem clos_bs1 : clos [92] = none := by decide
theorem clos_bs (d : UInt8) (t : List UInt8) : clos (92 :: d :: t) = (clos t).map (· + 2) := by simp [clos]
theorem clos_lit (c : UInt8) (t : List UInt8) (h1 : c ≠ 34) (h2 : c ≠ 92) : clos (c :: t) = (clos t).map (· + 1) := by cases t <;> simp [clos, h1, h2]

theorem unq_nil : unq [] = some [] := by simp [unq]
theorem unq_bs1 : unq [92] = none := by decide
theorem unq_bs (d : UInt8) (t : List UInt8) : unq (92 :: d :: t) = (unq t).map (d :: ·) := by simp [unq]
theorem unq_lit (c : UInt8) (t : List UInt8) (h2 : c ≠ 92) : unq (c :: t) = (unq t).map (c :: ·) := by cases t <;> simp [unq, h2]

theorem mdl_f_nil : mdl false [] = some [] := by simp [mdl]
theorem mdl_t_nil : mdl true [] = none := by simp [mdl]
theorem mdl_f_dq (t : List UInt8) : mdl false (34 :: t) = mdl true t := by simp [mdl]
theorem mdl_f_lit (c : UInt8) (t : List UInt8) (h : c ≠ 34) : mdl false (c :: t) = (mdl false t).map (c :: ·) := by simp [mdl, h]
theorem mdl_t_dq (t : List UInt8) : mdl true (34 :: t) = mdl false t := by cases t <;> simp [mdl]
theorem mdl_t_bs1 : mdl true [92] = none := by simp [mdl]
theorem mdl_t_bs (d : UInt8) (t : List UInt8) : mdl true (92 :: d :: t) = (mdl true t).map (d :: ·) := by simp [mdl]
theorem mdl_t_lit (c : UInt8) (t : List UInt8) (h1 : c ≠ 34) (h2 : c ≠ 92) : mdl true (c :: t) = (mdl true t).map (c :: ·) := by cases t <;> simp [mdl, h1, h2]

/-- inside a quoted string: it closes; its content; what follows -/
theorem mdl_true : ∀ (n : Nat) (t r : List UInt8), t.length ≤ n → mdl true t = some r →
    ∃ k q r', k < t.length ∧ t[k]? = some 34 ∧ clos t = some k ∧ unq (t.take k) = some q ∧ mdl false (t.drop (k + 1)) = some r' ∧ r = q ++ r'
  | _, [], r, _, h => by rw [mdl_t_nil] at h; exact absurd h (by simp)
  | 0, _ :: _, _, hn, _ => absurd hn (by simp)
  | n + 1, c :: t, r, hn, h => by
    by_cases h1 : c = 34
    · subst h1
      rw [mdl_t_dq] at h
      exact ⟨0, [], r, by simp, by simp, clos_dq t, by simp [unq], by simpa using h, rfl⟩
    · by_cases h2 : c = 92
      · subst h2
        rcases t with _ | ⟨d, t⟩
        · rw [mdl_t_bs1] at h; exact absurd h (by simp)
        · rw [mdl_t_bs, Option.map_eq_some_iff] at h
          obtain ⟨r1, h, rfl⟩ := h
          obtain ⟨k, q, r', hk, hd, hc, hu, hm, rfl⟩ := mdl_true n t r1 (by simp at hn; omega) h
          refine ⟨k + 2, d :: q, r', by simp; omega, by simpa using hd, ?_, ?_, by simpa using hm, rfl⟩
          · rw [clos_bs, hc]; rfl
          · rw [List.take_succ_cons, List.take_succ_cons, unq_bs, hu]; rfl
      · rw [mdl_t_lit _ _ h1 h2, Option.map_eq_some_iff] at h
        obtain ⟨r1, h, rfl⟩ := h
        obtain ⟨k, q, r', hk, hd, hc, hu, hm, rfl⟩ := mdl_true n t r1 (by simp at hn; omega) h
        refine ⟨k + 1, c :: q, r', by simp; omega, by simpa using hd, ?_, ?_, by simpa using hm, rfl⟩
        · rw [clos_lit _ _ h1 h2, hc]; rfl
        · rw [List.take_succ_cons, unq_lit _ _ h2, hu]; rfl

/-- no double quote: nothing turns -/
theorem mdl_plain (t : List UInt8) (h : 34 ∉ t) : mdl false t = some t := by
  induction t with
  | nil => exact mdl_f_nil
  | cons c t ih =>
    rw [mdl_f_lit _ _ (by intro e; exact h (by simp [e])), ih (fun h' => h (List.mem_cons_of_mem _ h'))]
    rfl

/-- no backslash: nothing turns -/
theorem unq_plain (t : List UInt8) (h : 92 ∉ t) : unq t = some t := by
  induction t with
  | nil => exact unq_nil
  | cons c t ih =>
    rw [unq_lit _ _ (by intro e; exact h (by simp [e])), ih (fun h' => h (List.mem_cons_of_mem _ h'))]
    rfl

theorem unq_len : ∀ (n : Nat) (t q : List UInt8), t.length ≤ n → unq t = some q → q.length ≤ t.length
  | _, [], q, _, h => by rw [unq_nil, Option.some.injEq] at h; rw [← h]; simp
  | 0, _ :: _, _, hn, _ => absurd hn (by simp)
  | n + 1, c :: t, q, hn, h => by
    by_cases h2 : c = 92
    · subst h2
      rcases t with _ | ⟨d, t⟩
      · rw [unq_bs1] at h; exact absurd h (by simp)
      · rw [unq_bs, Option.map_eq_some_iff] at h
        obtain ⟨r1, h, rfl⟩ := h
        have := unq_len n t r1 (by simp at hn; omega) h
        simp only [List.length_cons]; omega
    · rw [unq_lit _ _ h2, Option.map_eq_some_iff] at h
      obtain ⟨r1, h, rfl⟩ := h
      have := unq_len n t r1 (by simp at hn; omega) h
      simp only [List.length_cons]; omega

/-- what is quoted -/
def quo : List UInt8 → List UInt8
  | [] => []
  | c :: t => if c = 34 ∨ c = 92 then 92 :: c :: quo t else c :: quo t

theorem mdl_quo (m rest r : List UInt8) (h : mdl false rest = some r) : mdl true (quo m ++ 34 :: rest) = some (m ++ r) := by
  induction m with
  | nil => simpa [quo, mdl_t_dq] using h
  | cons c t ih =>
    by_cases hc : c = 34 ∨ c = 92
    · simp only [quo, if_pos hc, List.cons_append]
      rw [mdl_t_bs, ih]; rfl
    · simp only [quo, if_neg hc, List.cons_append]
      rw [mdl_t_lit _ _ (fun e => hc (Or.inl e)) (fun e => hc (Or.inr e)), ih]; rfl

theorem mdl_before (b rest r : List UInt8) (hb : 34 ∉ b) (h : mdl false rest = some r) : mdl false (b ++ rest) = some (b ++ r) := by
  induction b with
  | nil => simpa using h
  | cons c t ih =>
    rw [List.cons_append, mdl_f_lit _ _ (by intro e; exact hb (by simp [e])), ih (fun h' => hb (List.mem_cons_of_mem _ h'))]
    rfl

/-- the round trip, plain -/
theorem trip (b m a : List UInt8) (hb : 34 ∉ b) (ha : 34 ∉ a) : mdl false (b ++ 34 :: (quo m ++ 34 :: a)) = some (b ++ (m ++ a)) :=
  mdl_before b _ _ hb (by rw [mdl_f_dq]; exact mdl_quo m a a (mdl_plain a ha))

end Go.Proofs.Qxb6002905a.Unq
