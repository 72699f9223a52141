/-
  THE WALKS OF firstBang, lastSinglePercent, zzSinglePct.
-/
import Derived.Test.Qxb6002905aLocal
import Derived.Test.Qxb6002905aShelf
import Derived.Test.Qxb6002905aShelf2
namespace Go.Proofs.Qxb6002905a
open Go.RowKit
set_option linter.unusedVariables false

/-! ### a hop is ASCII -/
theorem hopC_lt {c : UInt8} (h : hopC c = true) : c.toNat < 128 := by
  unfold hopC at h; rw [decide_eq_true_iff] at h; omega
theorem litC_lt {c : UInt8} (h : litC c = true) : c.toNat < 128 := by
  unfold litC at h; rw [decide_eq_true_iff] at h; omega
theorem hopOK_ascii (nm : ByteArray) (h : hopOK nm.data.toList = true) : ∀ (j : Nat) b, nm.data.toList[j]? = some b → b.toNat < 128 := by
  by_cases h0 : 0 < nm.size
  · by_cases e : nm[0] = 91
    · rw [hopOK_lit nm h0 e, Bool.and_eq_true, Bool.and_eq_true, decide_eq_true_iff, decide_eq_true_iff] at h
      obtain ⟨⟨h1, h2⟩, h3⟩ := h
      intro j b hj
      have hlt : j < nm.size := bat_lt (s := nm) hj
      by_cases j0 : j = 0
      · rw [j0, list_at nm 0 h0, e, Option.some.injEq] at hj; rw [← hj]; decide
      · by_cases jl : j = nm.size - 1
        · rw [jl, h2, Option.some.injEq] at hj; rw [← hj]; decide
        · have hm : b ∈ (nm.data.toList.drop 1).take (nm.size - 2) := by
            have : ((nm.data.toList.drop 1).take (nm.size - 2))[j - 1]? = some b := by
              rw [List.getElem?_take_of_lt (by omega), List.getElem?_drop]
              have e3 : 1 + (j - 1) = j := by omega
              rw [e3]; exact hj
            exact List.mem_of_getElem? this
          exact litC_lt (List.all_eq_true.1 h3 b hm)
    · rw [hopOK_name nm h0 e] at h
      intro j b hj
      exact hopC_lt (List.all_eq_true.1 h b (List.mem_of_getElem? hj))
  · rw [hopOK_zero nm h0] at h; exact absurd h (by simp)

theorem any_eq : ∀ (l : List UInt8), Lib.containsAny l [46, 91] = (has l 46 || has l 91) := by
  intro l
  unfold Lib.containsAny
  have key : (0 ≤ Lib.indexAny l [46, 91]) ↔ (46 ∈ l ∨ 91 ∈ l) := by
    induction l with
    | nil => simp [Lib.indexAny]
    | cons b l ih =>
      have hge := Lib.indexAny_ge [46, 91] l
      unfold Lib.indexAny
      by_cases hb : ([46, 91] : List UInt8).contains b = true
      · rw [if_pos hb]
        have : b = 46 ∨ b = 91 := by simpa using hb
        constructor
        · intro _
          rcases this with h | h
          · exact Or.inl (by simp [h])
          · exact Or.inr (by simp [h])
        · intro _; omega
      · rw [if_neg hb]
        have hn : ¬ (b = 46 ∨ b = 91) := by simpa using hb
        have n1 : ¬ 46 = b := fun h => hn (Or.inl h.symm)
        have n2 : ¬ 91 = b := fun h => hn (Or.inr h.symm)
        have e : (46 ∈ b :: l ∨ 91 ∈ b :: l) ↔ (46 ∈ l ∨ 91 ∈ l) := by simp [List.mem_cons, n1, n2]
        rw [e, ← ih]
        by_cases hm : Lib.indexAny l [46, 91] = -1
        · simp [hm]
        · rw [if_neg (by simpa using hm)]
          omega
  unfold has
  rw [Bool.eq_iff_iff, Bool.or_eq_true, decide_eq_true_iff, decide_eq_true_iff, decide_eq_true_iff]
  exact key

theorem idx_call2 (s : ByteArray) (c : Int) (w : World) :
    Calls Try.prog 23 #[.string s, .int .u8 c] w fun e w' => e = .returned (.int .i64 (Lib.indexByte s.data.toList c.toNat.toUInt8)) ∧ w = w' := by
  refine (Try.strings_IndexByte s c w).mono ?_
  rintro e w' ⟨rfl, rfl⟩
  exact ⟨rfl, rfl⟩
theorem trim_call (s : ByteArray) (w : World) (hs : s.size ≤ 4194304) :
    Calls Try.prog 37 #[.string s, .string ⟨#[46]⟩] w fun e w' => e = .returned (.string ⟨(Lib.trimSuffix s.data.toList [46]).toArray⟩) ∧ w = w' := by
  refine (Try.strings_TrimSuffix s ⟨#[46]⟩ w (by omega)).mono ?_
  rintro e w' ⟨rfl, rfl⟩
  exact ⟨rfl, rfl⟩
theorem any_call (s : ByteArray) (w : World) (hs : s.size ≤ 4194304) (ha : ∀ (j : Nat) b, s.data.toList[j]? = some b → b.toNat < 128) :
    Calls Try.prog 36 #[.string s, .string ⟨#[46, 91]⟩] w fun e w' => e = .returned (.bool (has s.data.toList 46 || has s.data.toList 91)) ∧ Below w.heap.size w w' := by
  refine (Try.strings_ContainsAny_laid s ⟨#[46, 91]⟩ w (by omega) (by decide) ha ?_).mono ?_
  · intro j b hj
    have : b ∈ ([46, 91] : List UInt8) := List.mem_of_getElem? hj
    simp at this
    rcases this with h | h <;> rw [h] <;> decide
  · rintro e w' ⟨rfl, hb⟩
    exact ⟨by rw [← any_eq], hb⟩

theorem bcell {W w1 : World} (hb : Below W.heap.size W w1) : (∀ b o, b < W.heap.size → w1.cell? ⟨b, o, none⟩ = W.cell? ⟨b, o, none⟩) ∧ (∀ b o, b < W.heap.size → w1.frozen? ⟨b, o, none⟩ = W.frozen? ⟨b, o, none⟩) :=
  ⟨fun b o h => hb.cell (p := ⟨b, o, none⟩) h, fun b o h => hb.frozen (p := ⟨b, o, none⟩) h⟩

set_option maxHeartbeats 1000000 in
theorem bang30 (s : ByteArray) (l r : Nat) (hl : l ≤ r) (hr : r ≤ s.size) (hs : s.size ≤ 4194304) (w : World) :
    Calls Try.prog 30 #[.string s, .int .i64 l, .int .i64 r] w fun e w' => e = .returned (.tuple #[.int .i64 (fbI s l r), .agg #[.string (fbN s l r), .string (fbK s l r)]]) ∧ Below w.heap.size w w' := by
  rcases bang_of_idx s l r hl hr with ⟨h1, h2⟩ | ⟨i, h1, h2, h3⟩
  · have H1 : Hid (Lib.indexByte (s.extract l r).data.toList 33 = -1) := h1
    have F : Hid (fbI s l r = -1 ∧ fbN s l r = ⟨#[]⟩ ∧ fbK s l r = ⟨#[]⟩) := fb_none h2
    clear h1 h2
    go_enter Try.func30, Try.ntmps30
    go_wp2_with (first | (go_at_call 23; go_must (refine (idx_call2 _ 33 _).mono ?_; rintro e w' ⟨rfl, rfl⟩; rw [show Lib.indexByte (s.extract l r).data.toList (33 : Int).toNat.toUInt8 = -1 from H1.out])))
    refine bodyPost_ret (v := .tuple #[.int .i64 (-1), .agg #[.string ⟨#[]⟩, .string ⟨#[]⟩]]) (by simp [results, Try.results30, go_sem]) rfl ⟨?_, ?_⟩
    · rw [F.out.1, F.out.2.1, F.out.2.2]
    · exact (Below.refl _ _).alloc (Nat.le_refl _) _
  · have H1 : Hid (Lib.indexByte (s.extract l r).data.toList 33 = i) := h1
    obtain ⟨f1, f2, f3⟩ := fb_some h3
    have hnm : (s.extract l (l + i)).size ≤ 4194304 := by rw [ByteArray.size_extract]; omega
    cases hok : hopOK (s.extract l (l + i)).data.toList with
    | false =>
      have F : Hid (fbI s l r = ((l + i : Nat) : Int) ∧ fbN s l r = ⟨#[]⟩ ∧ fbK s l r = ⟨#[]⟩) := ⟨f1, by rw [f2]; unfold hopN; rw [hok]; rfl, by rw [f3]; unfold hopK; rw [hok]; rfl⟩
      have HK : Hid (hopOK (s.extract l (l + i)).data.toList = false) := hok
      clear h1 h3 f1 f2 f3 hok
      go_enter Try.func30, Try.ntmps30
      go_wp2_with (first | (go_at_call 23; go_must (refine (idx_call2 _ 33 _).mono ?_; rintro e w' ⟨rfl, rfl⟩; rw [show Lib.indexByte (s.extract l r).data.toList (33 : Int).toNat.toUInt8 = i from H1.out])) | (go_at_call 35; go_must (refine (hop35 (s.extract l (l + i)) hnm _).mono ?_; rintro e w' ⟨rfl, rfl⟩; rw [HK.out])))
      refine bodyPost_ret (v := .tuple #[.int .i64 ((l : Int) + i), .agg #[.string ⟨#[]⟩, .string ⟨#[]⟩]]) (by simp [results, Try.results30, go_sem]) rfl ⟨?_, ?_⟩
      · rw [F.out.1, F.out.2.1, F.out.2.2, Int.natCast_add]
      · exact (Below.refl _ _).alloc (Nat.le_refl _) _
    | true =>
      have HK : Hid (hopOK (s.extract l (l + i)).data.toList = true) := hok
      have HA : Hid (∀ (j : Nat) b, (s.extract l (l + i)).data.toList[j]? = some b → b.toNat < 128) := hopOK_ascii _ hok
      have eN : fbN s l r = ⟨(Lib.trimSuffix (s.extract l (l + i)).data.toList [46]).toArray⟩ := by rw [f2]; unfold hopN; rw [hok]; rfl
      have eK : fbK s l r = kindOf (s.extract l (l + i)).data.toList := by rw [f3]; unfold hopK; rw [hok]; rfl
      cases hk : (has (s.extract l (l + i)).data.toList 46 || has (s.extract l (l + i)).data.toList 91) with
      | true =>
        have F : Hid (fbI s l r = ((l + i : Nat) : Int) ∧ fbN s l r = ⟨(Lib.trimSuffix (s.extract l (l + i)).data.toList [46]).toArray⟩ ∧ fbK s l r = domain) := ⟨f1, eN, by rw [eK]; unfold kindOf; rw [hk]; rfl⟩
        have HK2 : Hid ((has (s.extract l (l + i)).data.toList 46 || has (s.extract l (l + i)).data.toList 91) = true) := hk
        clear h1 h3 f1 f2 f3 hok hk eN eK
        go_enter Try.func30, Try.ntmps30
        go_wp2_with (first | (go_at_call 23; go_must (refine (idx_call2 _ 33 _).mono ?_; rintro e w' ⟨rfl, rfl⟩; rw [show Lib.indexByte (s.extract l r).data.toList (33 : Int).toNat.toUInt8 = i from H1.out])) | (go_at_call 35; go_must (refine (hop35 (s.extract l (l + i)) hnm _).mono ?_; rintro e w' ⟨rfl, rfl⟩; rw [HK.out])) | (go_at_call 36; go_must (refine (any_call (s.extract l (l + i)) _ hnm HA.out).mono ?_; rintro e w2 ⟨rfl, hb2⟩; rw [HK2.out]; obtain ⟨hc, hf⟩ := bcell hb2; have hz := hb2.size)) | (go_at_call 37; go_must (refine (trim_call (s.extract l (l + i)) _ hnm).mono ?_; rintro e w' ⟨rfl, rfl⟩)))
        refine bodyPost_ret (v := .tuple #[.int .i64 ((l : Int) + i), .agg #[.string ⟨(Lib.trimSuffix (s.extract l (l + i)).data.toList [46]).toArray⟩, .string domain]]) (by simp [results, Try.results30, go_sem, hc, domain]) rfl ⟨?_, ?_⟩
        · rw [F.out.1, F.out.2.1, F.out.2.2, Int.natCast_add]
        · exact (((Below.refl _ _).alloc (Nat.le_refl _) _).trans (hb2.mono (by simp))).setCell (by simp) _ |>.setCell (by simp) _
      | false =>
        have F : Hid (fbI s l r = ((l + i : Nat) : Int) ∧ fbN s l r = ⟨(Lib.trimSuffix (s.extract l (l + i)).data.toList [46]).toArray⟩ ∧ fbK s l r = uucp) := ⟨f1, eN, by rw [eK]; unfold kindOf; rw [hk]; rfl⟩
        have HK2 : Hid ((has (s.extract l (l + i)).data.toList 46 || has (s.extract l (l + i)).data.toList 91) = false) := hk
        clear h1 h3 f1 f2 f3 hok hk eN eK
        go_enter Try.func30, Try.ntmps30
        go_wp2_with (first | (go_at_call 23; go_must (refine (idx_call2 _ 33 _).mono ?_; rintro e w' ⟨rfl, rfl⟩; rw [show Lib.indexByte (s.extract l r).data.toList (33 : Int).toNat.toUInt8 = i from H1.out])) | (go_at_call 35; go_must (refine (hop35 (s.extract l (l + i)) hnm _).mono ?_; rintro e w' ⟨rfl, rfl⟩; rw [HK.out])) | (go_at_call 36; go_must (refine (any_call (s.extract l (l + i)) _ hnm HA.out).mono ?_; rintro e w2 ⟨rfl, hb2⟩; rw [HK2.out]; obtain ⟨hc, hf⟩ := bcell hb2; have hz := hb2.size)) | (go_at_call 37; go_must (refine (trim_call (s.extract l (l + i)) _ hnm).mono ?_; rintro e w' ⟨rfl, rfl⟩)))
        refine bodyPost_ret (v := .tuple #[.int .i64 ((l : Int) + i), .agg #[.string ⟨(Lib.trimSuffix (s.extract l (l + i)).data.toList [46]).toArray⟩, .string uucp]]) (by simp [results, Try.results30, go_sem, hc, uucp]) rfl ⟨?_, ?_⟩
        · rw [F.out.1, F.out.2.1, F.out.2.2, Int.natCast_add]
        · exact (((Below.refl _ _).alloc (Nat.le_refl _) _).trans (hb2.mono (by simp))).setCell (by simp) _ |>.setCell (by simp) _
end Go.Proofs.Qxb6002905a
