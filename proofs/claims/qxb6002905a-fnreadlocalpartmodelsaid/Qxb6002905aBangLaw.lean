/-
  A BANG PATH, PLAIN: n1!n2!..!user reads as the hops n1, n2, .. and what is left is user.
-/
import Derived.Test.Qxb6002905aLocal
import Derived.Test.Qxb6002905aStrs
namespace Go.Proofs.Qxb6002905a
set_option linter.unusedVariables false

/-- the bytes of a bang path -/
def bpath (ns : List ByteArray) : List UInt8 := ns.flatMap fun n => n.data.toList ++ [33]

theorem uuC_hop {c : UInt8} (h : uuC c = true) : hopC c = true ∧ c ≠ 33 ∧ c ≠ 37 ∧ c ≠ 46 ∧ c ≠ 91 := by
  unfold uuC at h
  rw [decide_eq_true_iff] at h
  refine ⟨by unfold hopC; rw [decide_eq_true_iff]; omega, ?_, ?_, ?_, ?_⟩
  all_goals
    intro e
    rw [e] at h
    revert h
    decide
theorem uu_mem {l : List UInt8} (h : uuOK l = true) : l ≠ [] ∧ ∀ c ∈ l, uuC c = true := by
  unfold uuOK at h
  rw [Bool.and_eq_true] at h
  exact ⟨by have := h.1; intro e; rw [e] at this; simp at this, List.all_eq_true.1 h.2⟩

theorem uu_hopOK (n : ByteArray) (h : uuOK n.data.toList = true) : hopOK n.data.toList = true := by
  obtain ⟨h1, h2⟩ := uu_mem h
  have h0 : 0 < n.size := by
    rw [← size_list]
    exact List.length_pos_iff.2 h1
  have h3 : n[0] ∈ n.data.toList := List.mem_of_getElem? (list_at n 0 h0)
  rw [hopOK_name n h0 (uuC_hop (h2 _ h3)).2.2.2.2, List.all_eq_true]
  exact fun c hc => (uuC_hop (h2 c hc)).1
theorem uu_kind (n : ByteArray) (h : uuOK n.data.toList = true) : kindOf n.data.toList = uucp := by
  obtain ⟨_, h2⟩ := uu_mem h
  have e1 : has n.data.toList 46 = false := by
    unfold has; rw [decide_eq_false_iff_not]
    exact fun hm => (uuC_hop (h2 _ hm)).2.2.2.1 rfl
  have e2 : has n.data.toList 91 = false := by
    unfold has; rw [decide_eq_false_iff_not]
    exact fun hm => (uuC_hop (h2 _ hm)).2.2.2.2 rfl
  unfold kindOf
  rw [e1, e2]
  rfl
theorem uu_trim (n : ByteArray) (h : uuOK n.data.toList = true) : Lib.trimSuffix n.data.toList [46] = n.data.toList := by
  obtain ⟨_, h2⟩ := uu_mem h
  unfold Lib.trimSuffix
  rw [if_neg]
  intro hs
  unfold Lib.hasSuffix at hs
  rw [List.isSuffixOf_iff_suffix] at hs
  obtain ⟨t, ht⟩ := hs
  have : (46 : UInt8) ∈ n.data.toList := by rw [← ht]; simp
  exact (uuC_hop (h2 _ this)).2.2.2.1 rfl
theorem uu_hopN (n : ByteArray) (h : uuOK n.data.toList = true) : hopN n = n ∧ hopK n = uucp := by
  constructor
  · unfold hopN; rw [uu_hopOK n h, uu_trim n h]
    exact Lib.mk_data n
  · unfold hopK; rw [uu_hopOK n h]
    exact uu_kind n h

/-- no percent sign: no percent step -/
theorem lpO_no (s : ByteArray) (l : Nat) (h : ∀ i, bat s i ≠ some 37) : ∀ r, lpO s l r = none
  | 0 => rfl
  | k + 1 => by
    by_cases hl : k < l
    · exact lpO_below s l (k + 1) (by omega)
    · have e : sing s k = false := by
        unfold sing
        rw [decide_eq_false (h k)]
        rfl
      rw [lpO_miss s l k (by omega) e]
      exact lpO_no s l h k
theorem canP_no (s : ByteArray) (l r : Nat) (h : ∀ i, bat s i ≠ some 37) : canP s l r = false := by
  unfold canP
  rw [(lp_none (lpO_no s l h r)).2, empty_size]
  rfl

theorem bat_drop (s : ByteArray) (l j : Nat) : bat s (l + j) = (s.data.toList.drop l)[j]? := by
  unfold bat; rw [List.getElem?_drop]

/-- the reading of a bang path -/
theorem rd_bang (s u : ByteArray) (pf : Bool) (hu0 : 0 < u.size) (hu : (33 : UInt8) ∉ u.data.toList) (hp : ∀ i, bat s i ≠ some 37) :
    ∀ (ns : List ByteArray) (l f : Nat), (∀ n ∈ ns, uuOK n.data.toList = true) → l ≤ s.size → s.data.toList.drop l = bpath ns ++ u.data.toList → s.size - l < f →
      (rd s pf f l s.size).1 = ns.map (fun n => (n, uucp)) ∧ s.extract (rd s pf f l s.size).2.1 (rd s pf f l s.size).2.2 = u
  | [], l, f, _, hl, hd, hf => by
    obtain ⟨g, rfl⟩ : ∃ g, f = g + 1 := ⟨f - 1, by omega⟩
    have hd' : s.data.toList.drop l = u.data.toList := by simpa [bpath] using hd
    have hb : bangO s l s.size = none := bang_none fun j h1 h2 => by
      have e : j = l + (j - l) := by omega
      rw [e, bat_drop, hd']
      intro h'
      exact hu (List.mem_of_getElem? h')
    have hcB : canB s l s.size = false := by
      unfold canB; rw [(fb_none hb).2.1, empty_size]; rfl
    rw [rd_stop (by rw [canP_no s l s.size hp]; rfl) hcB]
    refine ⟨rfl, ?_⟩
    have hlen := congrArg List.length hd'
    rw [List.length_drop, size_list, size_list] at hlen
    show s.extract l s.size = u
    rw [Lib.extract_eq, hd', List.take_of_length_le (by rw [size_list]; omega)]
  | n :: ns, l, f, hn, hl, hd, hf => by
    obtain ⟨g, rfl⟩ : ∃ g, f = g + 1 := ⟨f - 1, by omega⟩
    have hnn := hn n (List.mem_cons_self ..)
    obtain ⟨hne, hall⟩ := uu_mem hnn
    have hn0 : 0 < n.data.toList.length := List.length_pos_iff.2 hne
    have hd' : s.data.toList.drop l = n.data.toList ++ (33 :: (bpath ns ++ u.data.toList)) := by
      rw [hd]; simp [bpath]
    have hlen := congrArg List.length hd'
    rw [List.length_drop, size_list, List.length_append, List.length_cons, List.length_append, size_list, size_list] at hlen
    rw [size_list] at hn0
    have hbang : IsBang s l s.size (l + n.size) := by
      refine ⟨by omega, by omega, ?_, ?_⟩
      · rw [bat_drop, hd', List.getElem?_append_right (by rw [size_list]; exact Nat.le_refl _), size_list, Nat.sub_self]; rfl
      · intro j h1 h2
        have e : j = l + (j - l) := by omega
        rw [e, bat_drop, hd', List.getElem?_append_left (by rw [size_list]; omega)]
        intro h'
        exact (uuC_hop (hall _ (List.mem_of_getElem? h'))).2.1 rfl
    have hb := bang_some hbang
    have hx : s.extract l (l + n.size) = n := by
      rw [Lib.extract_eq, hd']
      have e : l + n.size - l = n.data.toList.length := by rw [size_list]; omega
      rw [e, List.take_left]
    have f1 := (fb_some hb).1
    have f2 : fbN s l s.size = n := by rw [(fb_some hb).2.1, hx]; exact (uu_hopN n hnn).1
    have f3 : fbK s l s.size = uucp := by rw [(fb_some hb).2.2, hx]; exact (uu_hopN n hnn).2
    have hcB : canB s l s.size = true := by
      unfold canB
      rw [f2, f1, decide_eq_true hn0, decide_eq_true (by omega)]
      rfl
    have hdn : s.data.toList.drop (l + n.size + 1) = bpath ns ++ u.data.toList := by
      have e : s.data.toList.drop (l + n.size + 1) = (s.data.toList.drop l).drop (n.size + 1) := by rw [List.drop_drop]; congr 1
      rw [e, hd']
      have e2 : n.data.toList ++ 33 :: (bpath ns ++ u.data.toList) = (n.data.toList ++ [33]) ++ (bpath ns ++ u.data.toList) := by simp
      rw [e2, List.drop_left' (by rw [List.length_append, size_list, List.length_singleton])]
    have ih := rd_bang s u pf hu0 hu hp ns (l + n.size + 1) g (fun m hm => hn m (List.mem_cons_of_mem _ hm)) (by omega) hdn (by omega)
    rw [rd_B (by rw [canP_no s l s.size hp]; rfl) hcB, f1, f2, f3, Int.toNat_natCast]
    refine ⟨?_, ih.2⟩
    rw [List.map_cons, ← ih.1]
end Go.Proofs.Qxb6002905a
