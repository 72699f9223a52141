/-
  THE WALKS OF FnModuleFieldReadsBackExactlyWithoutAt's ROAD: each Go function on it computes a plain function; and the plain law.
-/
import Derived.Test.Qxb6002630aProg
import Derived.WalkKit
import Derived.ProofKit
import Derived.Lib.IndexMore
import Derived.WalkSmall
import Derived.WalkSpells
import Derived.WalkLawsBesides
import Derived.RegionTactic
import Derived.Deep.DeepMust
namespace Go.Proofs.Qxb6002630a.Field
open Go.RowKit
set_option linter.unusedVariables false

def has (l : List UInt8) (c : UInt8) : Bool := decide (c ∈ l)
theorem has_yes (s : ByteArray) (c : UInt8) (k : Nat) (h : k < s.size) (e : ((s[k].toNat : Int) == (c.toNat : Int)) = true) : has s.data.toList c = true := by
  unfold has
  have e' : s[k] = c := by
    have := beq_iff_eq.1 e
    exact UInt8.toNat_inj.1 (by omega)
  rw [decide_eq_true_iff, ← e']
  have : s[k] = s.data.toList[k]'(by simpa using h) := rfl
  rw [this]
  exact List.getElem_mem _
theorem has_step (s : ByteArray) (c : UInt8) (k : Nat) (h : k < s.size) (hn : c ∉ s.data.toList.take k) (e : ((s[k].toNat : Int) == (c.toNat : Int)) = false) : c ∉ s.data.toList.take (k + 1) := by
  have e' : s[k] ≠ c := by
    intro he
    rw [he] at e
    simp at e
  have h' : k < s.data.toList.length := by simpa using h
  rw [List.take_succ_eq_append_getElem h', List.mem_append]
  rintro (h1 | h1)
  · exact hn h1
  · simp only [List.mem_singleton] at h1
    exact e' (by rw [h1]; rfl)
theorem has_no (s : ByteArray) (c : UInt8) (k : Nat) (h : ¬ k < s.size) (hn : c ∉ s.data.toList.take k) : has s.data.toList c = false := by
  unfold has
  rw [List.take_of_length_le (by simp; omega)] at hn
  simpa using hn

set_option maxHeartbeats 400000 in
theorem hasByte_any (s : ByteArray) (c : UInt8) (hs : s.size ≤ maxLen) (w : World) :
    Calls Try.prog 7 #[.string s, .int .u8 c.toNat] w fun e w' => e = .returned (.bool (has s.data.toList c)) ∧ w' = w := by
  unfold maxLen at hs
  go_enter Try.func7, Try.ntmps7
  go_wp2
  go_loop [5] (fun i => ∃ k : Nat, k ≤ s.size ∧ i = .int .i64 k ∧ c ∉ s.data.toList.take k) (fun i => s.size - (intOf i).toNat)
  case atStart => exact ⟨0, Nat.zero_le _, rfl, by simp⟩
  case round =>
    obtain ⟨k, hk, rfl, hn⟩ := hrel
    by_cases hlt : k < s.size
    · go_wp2
      · have e : ((s[k].toNat : Int) == (c.toNat : Int)) = true := by assumption
        have hy := has_yes s c k hlt e
        go_ret
        exact ⟨by rw [hy]; rfl, rfl⟩
      · have e : ((s[k].toNat : Int) == (c.toNat : Int)) = false := by assumption
        have hy := has_step s c k hlt hn e
        go_round
        case rel => exact ⟨k + 1, by omega, by go_num, hy⟩
        case measure => simp [intOf]; omega
    · have hy := has_no s c k hlt hn
      have Hy : Hid (has s.data.toList c = false) := hy
      clear hy
      go_wp2
      go_ret
      exact ⟨by rw [Hy.out]; rfl, rfl⟩
theorem zz15 (a0 a1 a2 : ByteArray) (w : World) (hT : a0.size + a1.size + a2.size ≤ 1048576) :
    Calls Try.prog 15 #[.string a0, .string a1, .string a2] w fun e w' => e = .returned (.bool true) ∧ w' = w := by
  go_enter Try.func15, Try.ntmps15
  go_wp2
  go_ret
  exact ⟨rfl, rfl⟩

def fieldB (m v : ByteArray) : ByteArray := if v.size = 0 then m else m ++ ⟨#[64]⟩ ++ v

theorem empty_yes (v : ByteArray) (h : v.size = 0) : v.toList.isEmpty = true := by
  rw [Lib.toList_data, List.isEmpty_iff, ← List.length_eq_zero_iff]
  simpa using h
theorem empty_no (v : ByteArray) (h : ¬ v.size = 0) : v.toList.isEmpty = false := by
  rw [Lib.toList_data, List.isEmpty_eq_false_iff]
  intro e
  have := congrArg List.length e
  simp at this
  exact h (by simpa using this)

set_option maxHeartbeats 400000 in
theorem fld (p m v : ByteArray) (w : World) (hT : p.size + m.size + v.size ≤ 1048576) :
    Calls Try.prog 16 #[.agg #[.string p, .string m, .string v, .string ⟨#[]⟩, .string ⟨#[]⟩, .slice none 0 0]] w fun e w' => e = .returned (.string (fieldB m v)) ∧ Below w.heap.size w w' := by
  by_cases hv : v.size = 0
  · have he := empty_yes v hv
    have hf : Hid (fieldB m v = m) := by unfold fieldB; rw [if_pos hv]; trivial
    clear hv
    go_enter Try.func16, Try.ntmps16
    go_wp2
    go_ret
    exact ⟨by rw [hf.out]; rfl, ((Below.refl _ _).alloc (Nat.le_refl _) _).alloc (by simp) _⟩
  · have he := empty_no v hv
    have hf : Hid (fieldB m v = m ++ ⟨#[64]⟩ ++ v) := by unfold fieldB; rw [if_neg hv]; trivial
    clear hv
    go_enter Try.func16, Try.ntmps16
    go_wp2
    go_ret
    exact ⟨by rw [hf.out]; rfl, ((Below.refl _ _).alloc (Nat.le_refl _) _).alloc (by simp) _⟩


theorem idxByte (s : ByteArray) (c : UInt8) (w : World) :
    Calls Try.prog 23 #[.string s, .int .u8 c.toNat] w fun e w' => e = .returned (.int .i64 (Lib.indexByte s.data.toList c)) ∧ w' = w := by
  go_enter Try.func23, Try.ntmps23
  go_wp2
  rw [run_callFunc_extern Try.func27 (by kernel_rfl) (by kernel_rfl) (by kernel_rfl) (e := Extern.BytealgIndexByte.indexByte) (by kernel_rfl), Lib.run_indexByteString]
  simp only [Result.andThen]
  rw [Oper.upon_value]
  go_wp2
  go_ret
  exact ⟨by simp, rfl⟩

set_option maxHeartbeats 400000 in
theorem idx_one (s : ByteArray) (w : World) :
    Calls Try.prog 22 #[.string s, .string ⟨#[64]⟩] w fun e w' => e = .returned (.int .i64 (Lib.indexByte s.data.toList 64)) ∧ w' = w := by
  go_enter Try.func22, Try.ntmps22
  go_wp2_with (go_at_call 23; refine (idxByte _ 64 _).mono ?_; rintro e w' ⟨rfl, rfl⟩)
  · have h : ([64] == s.toList) = true := by assumption
    go_ret
    refine ⟨?_, rfl⟩
    have e : s.data.toList = [64] := by rw [← Lib.toList_data]; exact (beq_iff_eq.1 h).symm
    rw [e]
    rfl
  · go_ret
    exact ⟨rfl, rfl⟩

/-- what the cut at the first '@' gives -/
def cut1 (f : ByteArray) : ByteArray := if Lib.indexByte f.data.toList 64 = -1 then f else f.extract 0 (Lib.indexByte f.data.toList 64).toNat
def cut2 (f : ByteArray) : ByteArray := if Lib.indexByte f.data.toList 64 = -1 then ⟨#[]⟩ else f.extract ((Lib.indexByte f.data.toList 64).toNat + 1) f.size

theorem idx_cases (f : ByteArray) : Lib.indexByte f.data.toList 64 = -1 ∨ ∃ i : Nat, Lib.indexByte f.data.toList 64 = i ∧ i < f.size := by
  have h := Lib.indexByte_ge f.data.toList 64
  by_cases e : Lib.indexByte f.data.toList 64 = -1
  · exact Or.inl e
  · refine Or.inr ⟨(Lib.indexByte f.data.toList 64).toNat, by omega, ?_⟩
    have h2 := (Lib.indexByte_some (l := f.data.toList) (c := 64) (o := (Lib.indexByte f.data.toList 64).toNat) (by omega)).1
    have h3 := (List.getElem?_eq_some_iff.1 h2).1
    rw [Lib.size_eq]
    exact h3

set_option maxHeartbeats 400000 in
theorem cut21 (s : ByteArray) (w : World) (hs : s.size ≤ 2097153) :
    Calls Try.prog 21 #[.string s, .string ⟨#[64]⟩] w fun e w' => ∃ b, e = .returned (.tuple #[.string (cut1 s), .string (cut2 s), .bool b]) ∧ ∃ n, w' = w.drewN n := by
  rcases idx_cases s with h | ⟨i, h, hi⟩
  · have e1 : Hid (cut1 s = s) := by unfold cut1; rw [if_pos h]; trivial
    have e2 : Hid (cut2 s = ⟨#[]⟩) := by unfold cut2; rw [if_pos h]; trivial
    go_enter Try.func21, Try.ntmps21
    go_wp2_with (go_at_call 22; refine (idx_one _ _).mono ?_; rintro e w' ⟨rfl, rfl⟩; rw [h])
    go_ret3
    exact ⟨false, by rw [e1.out, e2.out]; rfl, 0, rfl⟩
  · have e1 : Hid (cut1 s = s.extract 0 i) := by unfold cut1; rw [if_neg (by omega), h]; trivial
    have e2 : Hid (cut2 s = s.extract (i + 1) s.size) := by unfold cut2; rw [if_neg (by omega), h]; trivial
    have c1 : (0 : Int) ≤ ↑i := by omega
    have c2 : (↑i : Int) ≤ ↑s.size := by omega
    have c3 : (0 : Int) ≤ ↑i + 1 := by omega
    have c4 : (↑i + 1 : Int) ≤ ↑s.size := by omega
    go_enter Try.func21, Try.ntmps21
    go_wp2_with (go_at_call 22; refine (idx_one _ _).mono ?_; rintro e w' ⟨rfl, rfl⟩; rw [h])
    go_region
    go_wp2
    go_ret3
    exact ⟨true, by rw [e1.out, e2.out]; rfl, 1, rfl⟩

set_option maxHeartbeats 400000 in
theorem cut20 (s : ByteArray) (w : World) (hs : s.size ≤ 2097153) :
    Calls Try.prog 20 #[.string s, .string ⟨#[64]⟩] w fun e w' => ∃ b, e = .returned (.tuple #[.string (cut1 s), .string (cut2 s), .bool b]) ∧ ∃ n, w' = w.drewN n := by
  go_enter Try.func20, Try.ntmps20
  go_wp2_with (go_at_call 21; refine (cut21 _ _ hs).mono ?_; rintro e w' ⟨b, rfl, n, rfl⟩)
  go_ret3
  exact ⟨_, rfl, n, rfl⟩
set_option maxHeartbeats 400000 in
theorem pkg19 (p f : ByteArray) (w : World) (hs : f.size ≤ 2097153) (b : Nat) (hb : b < w.heap.size) (h0 : w.cell? ⟨b, 0, none⟩ = some (.string p)) (h1 : w.cell? ⟨b, 1, none⟩ = some (.string f)) :
    Calls Try.prog 19 #[.slice (some ⟨b, 0, none⟩) 2 2] w fun e w' => e = .returned (.agg #[.string p, .string (cut1 f), .string (cut2 f), .string ⟨#[]⟩, .string ⟨#[]⟩, .slice none 0 0]) ∧ Below w.heap.size w w' := by
  go_enter Try.func19, Try.ntmps19
  go_wp2_with (first | (go_at_call 20; refine (cut20 _ _ hs).mono ?_; rintro e w' ⟨c, rfl, n, rfl⟩))
  refine bodyPost_ret (v := .agg #[.string p, .string (cut1 f), .string (cut2 f), .string ⟨#[]⟩, .string ⟨#[]⟩, .slice none 0 0]) ?_ rfl ⟨rfl, ?_⟩
  · simp [results, Try.results19, go_sem]
  · exact (((((((below_drewN ((Below.refl _ _).alloc (Nat.le_refl _) _) _).setCell (by simp) _).setCell (by simp) _).setCell (by simp) _).setCell (by simp) _).setCell (by simp) _).setCell (by simp) _)

theorem bcell {W w1 : World} (hb : Below W.heap.size W w1) : (∀ b o, b < W.heap.size → w1.cell? ⟨b, o, none⟩ = W.cell? ⟨b, o, none⟩) ∧ (∀ b o, b < W.heap.size → w1.frozen? ⟨b, o, none⟩ = W.frozen? ⟨b, o, none⟩) :=
  ⟨fun b o h => hb.cell (p := ⟨b, o, none⟩) h, fun b o h => hb.frozen (p := ⟨b, o, none⟩) h⟩

set_option maxHeartbeats 400000 in
theorem pkg17 (p f : ByteArray) (w : World) (hs : f.size ≤ 2097153) (b : Nat) (hb : b < w.heap.size) (h0 : w.cell? ⟨b, 0, none⟩ = some (.string p)) (h1 : w.cell? ⟨b, 1, none⟩ = some (.string f)) :
    Calls Try.prog 17 #[.slice (some ⟨b, 0, none⟩) 2 2] w fun e w' => e = .returned (.agg #[.string p, .string (cut1 f), .string (cut2 f), .string ⟨#[]⟩, .string ⟨#[]⟩, .slice none 0 0]) ∧ Below w.heap.size w w' := by
  have k0 : ∀ o, (w.alloc o).cell? ⟨b, 0, none⟩ = some (.string p) := fun o => (((Below.refl w.heap.size w).alloc (Nat.le_refl _) o).cell (p := ⟨b, 0, none⟩) hb).trans h0
  have k1 : ∀ o, (w.alloc o).cell? ⟨b, 1, none⟩ = some (.string f) := fun o => (((Below.refl w.heap.size w).alloc (Nat.le_refl _) o).cell (p := ⟨b, 1, none⟩) hb).trans h1
  clear h0 h1
  go_enter Try.func17, Try.ntmps17
  go_wp2_with (first | (go_at_call 19; go_must (refine (pkg19 p f _ hs b (by simp; omega) (k0 _) (k1 _)).mono ?_; rintro e w1 ⟨rfl, hb1⟩; obtain ⟨hc, hf⟩ := bcell hb1)))
  refine bodyPost_ret (v := .agg #[.string p, .string (cut1 f), .string (cut2 f), .string ⟨#[]⟩, .string ⟨#[]⟩, .slice none 0 0]) ?_ rfl ⟨rfl, ?_⟩
  · simp [results, Try.results17, go_sem, hc]
  · exact ((((((((((Below.refl _ _).alloc (Nat.le_refl _) _).trans (hb1.mono (by simp))).setCell (by simp) _).setCell (by simp) _).setCell (by simp) _).setCell (by simp) _).setCell (by simp) _).setCell (by simp) _))

/-! the plain law -/
theorem field_size (m v : ByteArray) : (fieldB m v).size ≤ m.size + v.size + 1 := by
  unfold fieldB
  split
  · omega
  · have e : (⟨#[64]⟩ : ByteArray).size = 1 := rfl
    rw [ByteArray.size_append, ByteArray.size_append]
    omega

theorem field_data (m v : ByteArray) : (fieldB m v).data.toList = m.data.toList ++ (if v.size = 0 then [] else 64 :: v.data.toList) := by
  unfold fieldB
  split <;> simp

theorem law_no (m v : ByteArray) (h : has m.data.toList 64 = false) : (cut1 (fieldB m v)).toList = m.toList ∧ (cut2 (fieldB m v)).toList = v.toList := by
  have hn : (64 : UInt8) ∉ m.data.toList := by simpa [has] using h
  rw [Lib.toList_data, Lib.toList_data, Lib.toList_data, Lib.toList_data]
  by_cases hv : v.size = 0
  · have hf : fieldB m v = m := by unfold fieldB; rw [if_pos hv]
    have hv0 : v.data.toList = [] := List.eq_nil_of_length_eq_zero (by rw [← Lib.size_eq]; exact hv)
    rw [hf, hv0]
    have hi : Lib.indexByte m.data.toList 64 = -1 := by
      rcases idx_cases m with h1 | ⟨i, h1, _⟩
      · exact h1
      · exact absurd (List.mem_of_getElem? (Lib.indexByte_some h1).1) hn
    unfold cut1 cut2
    rw [if_pos hi, if_pos hi]
    exact ⟨rfl, rfl⟩
  · have hd := field_data m v
    rw [if_neg hv] at hd
    have hat : (fieldB m v).data.toList[m.data.toList.length]? = some 64 := by rw [hd]; simp
    rcases idx_cases (fieldB m v) with h1 | ⟨i, h1, h2⟩
    · exact absurd hat (Lib.indexByte_none h1 _)
    · obtain ⟨h3, h4⟩ := Lib.indexByte_some h1
      have hi : i = m.data.toList.length := by
        rcases Nat.lt_trichotomy i m.data.toList.length with h5 | h5 | h5
        · rw [hd, List.getElem?_append_left h5] at h3
          exact absurd (List.mem_of_getElem? h3) hn
        · exact h5
        · exact absurd hat (h4 _ h5)
      unfold cut1 cut2
      rw [if_neg (by omega), if_neg (by omega), h1, Lib.extract_data, Lib.extract_data, Lib.size_eq, hd, Int.toNat_natCast, hi]
      constructor
      · simp
      · have e : m.data.toList ++ 64 :: v.data.toList = (m.data.toList ++ [64]) ++ v.data.toList := by simp
        rw [List.take_of_length_le (by simp), e, List.drop_left' (by simp)]

theorem law_yes (m v : ByteArray) (h : has m.data.toList 64 = true) : ¬ (cut1 (fieldB m v)).toList = m.toList := by
  have hm : (64 : UInt8) ∈ m.data.toList := by simpa [has] using h
  obtain ⟨k, hk, hk2⟩ := List.getElem_of_mem hm
  have hat : (fieldB m v).data.toList[k]? = some 64 := by
    rw [field_data, List.getElem?_append_left hk, List.getElem?_eq_getElem hk, hk2]
  rw [Lib.toList_data, Lib.toList_data]
  rcases idx_cases (fieldB m v) with h1 | ⟨i, h1, h2⟩
  · exact absurd hat (Lib.indexByte_none h1 _)
  · obtain ⟨h3, h4⟩ := Lib.indexByte_some h1
    have hi : i ≤ k := by
      rcases Nat.lt_or_ge k i with h5 | h5
      · exact absurd hat (h4 _ h5)
      · exact h5
    unfold cut1
    rw [if_neg (by omega), h1, Lib.extract_data]
    intro e
    have := congrArg List.length e
    simp at this
    have hkm : k < m.size := by rw [Lib.size_eq]; exact hk
    omega

theorem end_same (m v : ByteArray) (h : (cut1 (fieldB m v)).toList = m.toList) : (((cut2 (fieldB m v)).toList == v.toList) == !has m.data.toList 64) = true := by
  cases hh : has m.data.toList 64 with
  | true => exact absurd h (law_yes m v hh)
  | false => rw [(law_no m v hh).2]; simp
theorem end_other (m v : ByteArray) (h : ¬ (cut1 (fieldB m v)).toList = m.toList) : has m.data.toList 64 = true := by
  cases hh : has m.data.toList 64 with
  | true => rfl
  | false => exact absurd (law_no m v hh).1 h

set_option maxHeartbeats 400000 in
theorem walk (a0 : ByteArray) (a1 : ByteArray) (a2 : ByteArray) (w0 : a0.size ≤ maxLen) (w1 : a1.size ≤ maxLen) (w2 : a2.size ≤ maxLen) (w : World) :
    Calls Try.prog 5 #[.string a0, .string a1, .string a2] w fun e w' => e = .returned (.bool true) ∧ Below w.heap.size w w' := by
  by_cases hT : a0.size + a1.size + a2.size ≤ 1048576
  · clear w0 w1 w2
    have hm : a1.size ≤ maxLen := by unfold maxLen; omega
    have hs : (fieldB a1 a2).size ≤ 2097153 := by have := field_size a1 a2; omega
    go_enter Try.func5, Try.ntmps5
    go_wp2_with (first | (go_at_call 15; refine (zz15 _ _ _ _ hT).mono ?_; rintro e w' ⟨rfl, rfl⟩) | (go_at_call 16; go_must (refine (fld _ _ _ _ hT).mono ?_; rintro e w1 ⟨rfl, hb1⟩; have hz := hb1.size)) | (go_at_call 17; go_must (refine (pkg17 a0 (fieldB a1 a2) _ hs _ (by simp) (by simp) (by simp)).mono ?_; rintro e w2 ⟨rfl, hb2⟩)) | (go_at_call 7; go_must (refine (hasByte_any a1 64 hm _).mono ?_; rintro e w3 ⟨rfl, rfl⟩)))
    · have hh : (cut1 (fieldB a1 a2)).toList = a1.toList := by assumption
      have he := end_same a1 a2 hh
      go_ret
      refine ⟨?_, ?_⟩
      · exact congrArg (fun b => Ending.returned (Value.bool b)) he
      · have hz2 := hb2.size
        simp only [World.size_alloc] at hz hz2
        exact ((((Below.refl _ _).alloc (Nat.le_refl _) _).trans (hb1.mono (by simp))).alloc (by omega) _ |>.trans (hb2.mono (by simp; omega))).alloc (by omega) _
    · have hh : ¬ (cut1 (fieldB a1 a2)).toList = a1.toList := by assumption
      have he := end_other a1 a2 hh
      go_ret
      refine ⟨?_, ?_⟩
      · exact congrArg (fun b => Ending.returned (Value.bool b)) he
      · have hz2 := hb2.size
        simp only [World.size_alloc] at hz hz2
        exact ((((Below.refl _ _).alloc (Nat.le_refl _) _).trans (hb1.mono (by simp))).alloc (by omega) _ |>.trans (hb2.mono (by simp; omega))).alloc (by omega) _
  · unfold maxLen at w0 w1 w2
    go_enter Try.func5, Try.ntmps5
    go_wp2
    all_goals go_ret
    all_goals exact ⟨rfl, Below.refl _ _⟩
end Go.Proofs.Qxb6002630a.Field
