/-
  SLICES OF STRINGS THAT CAME IN: zzBytes_.., zzStrBytes; zzUUCPName.
-/
import Derived.Test.Qxb6002905aHopz
import Derived.Deep.LoopGhost
namespace Go.Proofs.Qxb6002905a
open Go.RowKit
set_option linter.unusedVariables false

/-- the strings ss lie at ⟨b, off⟩ -/
def RowS (w : World) (b off : Nat) (ss : List ByteArray) : Prop := ∀ i, i < ss.length → w.cell? ⟨b, off + i, none⟩ = some (.string (ss.getD i ByteArray.empty))
/-- bytes of the first k -/
def sumS (ss : List ByteArray) (k : Nat) : Nat := ((ss.take k).map (·.size)).sum
theorem sumS_zero (ss : List ByteArray) : sumS ss 0 = 0 := by simp [sumS]
theorem sumS_succ (ss : List ByteArray) (k : Nat) (h : k < ss.length) : sumS ss (k + 1) = sumS ss k + (ss.getD k ByteArray.empty).size := by
  unfold sumS
  rw [List.take_succ_eq_append_getElem h, List.map_append, List.sum_append, List.getD_eq_getElem?_getD, List.getElem?_eq_getElem h]
  simp
theorem sumS_mono (ss : List ByteArray) (i : Nat) : ∀ j, i ≤ j → j ≤ ss.length → sumS ss i ≤ sumS ss j
  | 0, h, _ => by have : i = 0 := by omega
                  rw [this]; exact Nat.le_refl _
  | j + 1, h, hl => by
    by_cases e : i = j + 1
    · rw [e]; exact Nat.le_refl _
    · have := sumS_mono ss i j (by omega) (by omega)
      rw [sumS_succ ss j (by omega)]
      omega
theorem sumS_one (ss : List ByteArray) (k : Nat) (h : k < ss.length) : (ss.getD k ByteArray.empty).size ≤ sumS ss ss.length := by
  have h1 := sumS_succ ss k h
  have h2 := sumS_mono ss (k + 1) ss.length (by omega) (Nat.le_refl _)
  omega

/-- it answers yes or no; yes only where p -/
def Told (e : Ending) (p : Prop) : Prop := ∃ x, e = .returned (.bool x) ∧ (x = true → p)
theorem told_no {e : Ending} {p : Prop} (h : e = .returned (.bool false)) : Told e p := ⟨false, h, fun h => absurd h (by simp)⟩
theorem told_yes {e : Ending} {p : Prop} (h : e = .returned (.bool true)) (hp : p) : Told e p := ⟨true, h, fun _ => hp⟩

set_option maxHeartbeats 1000000 in
theorem bytes17_row (b off n cap : Nat) (ss : List ByteArray) (u : ByteArray) (pf : Bool) (w : World) (hr : RowS w b off ss) (hn : ss.length = n) (hm : n ≤ 9223372036854775807) (hu : u.size ≤ 9223372036854775807) (hss : ∀ t ∈ ss, t.size ≤ 9223372036854775807) :
    Calls Try.prog 17 #[.slice (some ⟨b, off, none⟩) n cap, .string u, .bool pf] w fun e w' => Told e (n + sumS ss n + u.size ≤ 1048576) ∧ w = w' := by
  have HR : Hid (RowS w b off ss) := hr
  have HN : Hid (ss.length = n) := hn
  clear hr hn
  by_cases hT : n ≤ 1048576
  · go_enter Try.func17, Try.ntmps17
    go_wp2
    go_loop [7, 8] (fun z i => ∃ k : Nat, k ≤ n ∧ i = .int .i64 k ∧ z = .int .i64 ((n + sumS ss k : Nat) : Int) ∧ n + sumS ss k ≤ 1048576) (fun _ i => n - (intOf i).toNat)
    case atStart => exact ⟨0, Nat.zero_le _, rfl, by rw [sumS_zero]; rfl, by rw [sumS_zero]; omega⟩
    case round =>
      obtain ⟨k, hk, rfl, rfl, hz⟩ := hrel
      by_cases hlt : k < n
      · have hl : k < ss.length := by have := HN.out; omega
        have h1 := sumS_succ ss k hl
        have c1 := HR.out k hl
        have hmem : (ss.getD k ByteArray.empty).size ≤ 9223372036854775807 := by
          rw [List.getD_eq_getElem?_getD, List.getElem?_eq_getElem hl]
          exact hss _ (List.getElem_mem hl)
        generalize ss.getD k ByteArray.empty = t at h1 c1 hmem
        have H1 : Hid (sumS ss (k + 1) = sumS ss k + t.size) := h1
        clear h1 hl hss
        go_wp2
        · go_ret
          exact ⟨told_no rfl, rfl⟩
        · go_ret
          exact ⟨told_no rfl, rfl⟩
        · go_round
          case rel => exact ⟨k + 1, by omega, by go_num, by rw [H1.out]; go_num, by rw [H1.out]; omega⟩
          case measure => simp [intOf]; omega
      · have ek : k = n := by omega
        subst ek
        go_wp2
        · go_ret
          exact ⟨told_no rfl, rfl⟩
        · go_ret
          exact ⟨told_no rfl, rfl⟩
        · go_ret
          exact ⟨told_yes rfl (by omega), rfl⟩
  · go_enter Try.func17, Try.ntmps17
    go_wp2
    all_goals go_ret
    all_goals exact ⟨told_no rfl, rfl⟩

set_option maxHeartbeats 1000000 in
theorem bytes17_zero (a : Option Addr) (cap : Nat) (u : ByteArray) (pf : Bool) (w : World) (hu : u.size ≤ 9223372036854775807) :
    Calls Try.prog 17 #[.slice a 0 cap, .string u, .bool pf] w fun e w' => Told e (u.size ≤ 1048576) ∧ w = w' := by
  go_enter Try.func17, Try.ntmps17
  go_wp2
  refine wp_loop_rounds 1 ?_
  rw [rounds_succ]
  go_wp2
  · go_ret
    exact ⟨told_no rfl, rfl⟩
  · go_ret
    exact ⟨told_yes rfl (by omega), rfl⟩

/-! ### zzStrBytes -/
set_option maxHeartbeats 1000000 in
theorem sb14_row (b off n cap : Nat) (ss : List ByteArray) (w : World) (hr : RowS w b off ss) (hn : ss.length = n) (hT : n + sumS ss n ≤ 1048576) :
    Calls Try.prog 14 #[.slice (some ⟨b, off, none⟩) n cap] w fun e w' => e = .returned (.int .i64 ((16 * n + sumS ss n : Nat) : Int)) ∧ w = w' := by
  have HR : Hid (RowS w b off ss) := hr
  have HN : Hid (ss.length = n) := hn
  clear hr hn
  go_enter Try.func14, Try.ntmps14
  go_wp2
  go_loop [3, 4] (fun z i => ∃ k : Nat, k ≤ n ∧ i = .int .i64 k ∧ z = .int .i64 ((16 * n + sumS ss k : Nat) : Int)) (fun _ i => n - (intOf i).toNat)
  case atStart => exact ⟨0, Nat.zero_le _, rfl, by rw [sumS_zero]; go_num⟩
  case round =>
    obtain ⟨k, hk, rfl, rfl⟩ := hrel
    by_cases hlt : k < n
    · have hl : k < ss.length := by have := HN.out; omega
      have h1 := sumS_succ ss k hl
      have h2 := sumS_mono ss (k + 1) ss.length (by omega) (Nat.le_refl _)
      rw [HN.out] at h2
      have c1 := HR.out k hl
      generalize ss.getD k ByteArray.empty = t at h1 c1
      have hb : sumS ss k + t.size ≤ 1048576 := by omega
      have H1 : Hid (sumS ss (k + 1) = sumS ss k + t.size) := h1
      clear h1 hl h2
      go_wp2
      go_round
      case rel => exact ⟨k + 1, by omega, by go_num, by rw [H1.out]; go_num⟩
      case measure => simp [intOf]; omega
    · have ek : k = n := by omega
      subst ek
      go_wp2
      go_ret
      exact ⟨by simp, rfl⟩
set_option maxHeartbeats 400000 in
theorem sb14_zero (a : Option Addr) (cap : Nat) (w : World) :
    Calls Try.prog 14 #[.slice a 0 cap] w fun e w' => e = .returned (.int .i64 0) ∧ w = w' := by
  go_enter Try.func14, Try.ntmps14
  go_wp2
  refine wp_loop_rounds 1 ?_
  rw [rounds_succ]
  go_wp2
  go_ret
  exact ⟨rfl, rfl⟩

/-! ### zzUUCPName -/
def uuC (c : UInt8) : Bool := decide ((97 ≤ c.toNat ∧ c.toNat ≤ 122) ∨ (65 ≤ c.toNat ∧ c.toNat ≤ 90) ∨ (48 ≤ c.toNat ∧ c.toNat ≤ 57) ∨ c.toNat = 45 ∨ c.toNat = 95)
def uuOK (l : List UInt8) : Bool := !l.isEmpty && l.all uuC
theorem uuOK_zero (h : ByteArray) (h0 : ¬ 0 < h.size) : uuOK h.data.toList = false := by
  have : h.data.toList = [] := List.eq_nil_of_length_eq_zero (by rw [size_list]; omega)
  rw [this]; rfl
theorem uuOK_some (h : ByteArray) (h0 : 0 < h.size) : uuOK h.data.toList = h.data.toList.all uuC := by
  have := ne_empty h h0
  rw [Lib.toList_data] at this
  unfold uuOK; rw [this]; rfl

theorem uu_rng {b : UInt8} (h : (97 ≤ (b.toNat : Int) ∧ (b.toNat : Int) ≤ 122) ∨ (65 ≤ (b.toNat : Int) ∧ (b.toNat : Int) ≤ 90) ∨ (48 ≤ (b.toNat : Int) ∧ (b.toNat : Int) ≤ 57) ∨ (b.toNat : Int) = 45 ∨ (b.toNat : Int) = 95) : uuC b = true := by
  unfold uuC; rw [decide_eq_true_iff]; omega
theorem uz_no {b : UInt8} (h : (!(b.toNat : Int) == 95) = true) (hr : ¬ ((97 ≤ (b.toNat : Int) ∧ (b.toNat : Int) ≤ 122) ∨ (65 ≤ (b.toNat : Int) ∧ (b.toNat : Int) ≤ 90) ∨ (48 ≤ (b.toNat : Int) ∧ (b.toNat : Int) ≤ 57) ∨ (b.toNat : Int) = 45)) : uuC b = false := by
  simp only [Bool.not_eq_true', beq_eq_false_iff_ne] at h
  unfold uuC; rw [decide_eq_false_iff_not]; omega
theorem uz_no5 {b : UInt8} (h : (((((!decide ((b.toNat : Int) ≤ 122)) = true) ∧ (!decide ((b.toNat : Int) ≤ 90)) = true) ∧ (!decide ((b.toNat : Int) ≤ 57)) = true) ∧ (!(b.toNat : Int) == 45) = true) ∧ (!(b.toNat : Int) == 95) = true) (hr : ¬ ((97 ≤ (b.toNat : Int) ∧ (b.toNat : Int) ≤ 122) ∨ (65 ≤ (b.toNat : Int) ∧ (b.toNat : Int) ≤ 90) ∨ (48 ≤ (b.toNat : Int) ∧ (b.toNat : Int) ≤ 57) ∨ (b.toNat : Int) = 45)) : uuC b = false := uz_no h.2 hr
theorem uz_ok5 {b : UInt8} (h : (((((!decide ((b.toNat : Int) ≤ 122)) = false) ∨ (!decide ((b.toNat : Int) ≤ 90)) = false) ∨ (!decide ((b.toNat : Int) ≤ 57)) = false) ∨ (!(b.toNat : Int) == 45) = false) ∨ (!(b.toNat : Int) == 95) = false) (hr : 122 < (b.toNat : Int) ∧ ¬ (b.toNat : Int) = 45) : uuC b = true := by
  simp only [Bool.not_eq_false', decide_eq_true_eq, beq_iff_eq] at h
  exact uu_rng (by omega)
theorem uz_no4 {b : UInt8} (h : ((((!decide ((b.toNat : Int) ≤ 90)) = true) ∧ (!decide ((b.toNat : Int) ≤ 57)) = true) ∧ (!(b.toNat : Int) == 45) = true) ∧ (!(b.toNat : Int) == 95) = true) (hr : ¬ ((97 ≤ (b.toNat : Int) ∧ (b.toNat : Int) ≤ 122) ∨ (65 ≤ (b.toNat : Int) ∧ (b.toNat : Int) ≤ 90) ∨ (48 ≤ (b.toNat : Int) ∧ (b.toNat : Int) ≤ 57) ∨ (b.toNat : Int) = 45)) : uuC b = false := uz_no h.2 hr
theorem uz_ok4 {b : UInt8} (h : ((((!decide ((b.toNat : Int) ≤ 90)) = false) ∨ (!decide ((b.toNat : Int) ≤ 57)) = false) ∨ (!(b.toNat : Int) == 45) = false) ∨ (!(b.toNat : Int) == 95) = false) (hr : 90 < (b.toNat : Int) ∧ ¬ (b.toNat : Int) = 45) : uuC b = true := by
  simp only [Bool.not_eq_false', decide_eq_true_eq, beq_iff_eq] at h
  exact uu_rng (by omega)
theorem uz_no3 {b : UInt8} (h : (((!decide ((b.toNat : Int) ≤ 57)) = true) ∧ (!(b.toNat : Int) == 45) = true) ∧ (!(b.toNat : Int) == 95) = true) (hr : ¬ ((97 ≤ (b.toNat : Int) ∧ (b.toNat : Int) ≤ 122) ∨ (65 ≤ (b.toNat : Int) ∧ (b.toNat : Int) ≤ 90) ∨ (48 ≤ (b.toNat : Int) ∧ (b.toNat : Int) ≤ 57) ∨ (b.toNat : Int) = 45)) : uuC b = false := uz_no h.2 hr
theorem uz_ok3 {b : UInt8} (h : (((!decide ((b.toNat : Int) ≤ 57)) = false) ∨ (!(b.toNat : Int) == 45) = false) ∨ (!(b.toNat : Int) == 95) = false) (hr : 57 < (b.toNat : Int) ∧ ¬ (b.toNat : Int) = 45) : uuC b = true := by
  simp only [Bool.not_eq_false', decide_eq_true_eq, beq_iff_eq] at h
  exact uu_rng (by omega)
theorem uz_no2 {b : UInt8} (h : ((!(b.toNat : Int) == 45) = true) ∧ (!(b.toNat : Int) == 95) = true) (hr : ¬ ((97 ≤ (b.toNat : Int) ∧ (b.toNat : Int) ≤ 122) ∨ (65 ≤ (b.toNat : Int) ∧ (b.toNat : Int) ≤ 90) ∨ (48 ≤ (b.toNat : Int) ∧ (b.toNat : Int) ≤ 57) ∨ (b.toNat : Int) = 45)) : uuC b = false := uz_no h.2 hr
theorem uz_ok2 {b : UInt8} (h : ((!(b.toNat : Int) == 45) = false) ∨ (!(b.toNat : Int) == 95) = false) (hr : True ∧ ¬ (b.toNat : Int) = 45) : uuC b = true := by
  simp only [Bool.not_eq_false', beq_iff_eq] at h
  exact uu_rng (by omega)

set_option maxHeartbeats 4000000 in
theorem uu18 (h : ByteArray) (hs : h.size ≤ 4194304) (w : World) :
    Calls Try.prog 18 #[.string h] w fun x w' => x = .returned (.bool (uuOK h.data.toList)) ∧ w = w' := by
  by_cases h0 : 0 < h.size
  · have hne := ne_empty h h0
    have HG : Hid (uuOK h.data.toList = h.data.toList.all uuC) := uuOK_some h h0
    go_enter Try.func18, Try.ntmps18
    go_wp2
    go_loop [3, 4, 5] (fun i _ _ => ∃ k : Nat, k ≤ h.size ∧ i = .int .i64 k ∧ Hid ((h.data.toList.take k).all uuC = true)) (fun i _ _ => h.size - (intOf i).toNat)
    case atStart => exact ⟨0, Nat.zero_le _, rfl, by show _ = true; simp⟩
    case round =>
      clear hne
      obtain ⟨k, hk, rfl, H⟩ := hrel
      by_cases hlt : k < h.size
      · go_wp2
        all_goals first
          | (have hb : uuC h[k] = false := by first | exact uz_no5 (by assumption) (by omega) | exact uz_no4 (by assumption) (by omega) | exact uz_no3 (by assumption) (by omega) | exact uz_no2 (by assumption) (by omega)
             have hf := HG.out.trans (all_bad h uuC k hlt hb)
             go_ret
             exact ⟨by rw [hf]; rfl, rfl⟩)
          | (have hg : uuC h[k] = true := by first | exact uu_rng (by omega) | exact uz_ok5 (by assumption) (by omega) | exact uz_ok4 (by assumption) (by omega) | exact uz_ok3 (by assumption) (by omega) | exact uz_ok2 (by assumption) ⟨trivial, by omega⟩
             have H2 := all_step h uuC k hlt H.out hg
             go_round
             case rel => exact ⟨k + 1, by omega, by go_num, H2⟩
             case measure => simp [intOf]; omega)
      · have e : Hid (uuOK h.data.toList = true) := HG.out.trans (all_end h uuC k (by omega) H.out)
        go_wp2
        go_ret
        exact ⟨by rw [e.out]; rfl, rfl⟩
  · have he := is_empty h h0
    have HH : Hid (uuOK h.data.toList = false) := uuOK_zero h h0
    go_enter Try.func18, Try.ntmps18
    go_wp2
    go_ret
    exact ⟨by rw [HH.out]; rfl, rfl⟩
end Go.Proofs.Qxb6002905a
