/-
  THE WALKS OF recordsEnd's ROAD: each computes a plain function of the text's bytes.
-/
import Derived.Test.Qxb6003232aShelf
import Derived.Test.Qxb6003232aRec
import Derived.WalkKit
import Derived.ProofKit
import Derived.WalkSmall
import Derived.WalkSpells
import Derived.WalkLawsBesides
import Derived.Deep.DeepMust
import Derived.OpenShut
namespace Go.Proofs.Qxb6003232a
open Go.RowKit
set_option linter.unusedVariables false

/-- block g holds the numbers zs, each a byte -/
def RowB (w : World) (g : Nat) (zs : List Int) : Prop := (∀ i, i < zs.length → w.cell? ⟨g, i, none⟩ = some (.int .u8 (zs.getD i 0))) ∧ ∀ z ∈ zs, 0 ≤ z ∧ z < 256

theorem getD_some {zs : List Int} {m : Nat} (h : m < zs.length) : zs[m]? = some (zs.getD m 0) := by
  rw [List.getD_eq_getElem?_getD, List.getElem?_eq_getElem h]; rfl

theorem at_yes {zs : List Int} {m : Nat} {c : Int} (h : m < zs.length) (e : (zs[m]?.getD 0 == c) = true) : zs[m]? = some c := by
  rw [List.getElem?_eq_getElem h] at e ⊢
  simpa using e
theorem at_no {zs : List Int} {m : Nat} {c : Int} (h : m < zs.length) (e : (zs[m]?.getD 0 == c) = false) : zs[m]? ≠ some c := by
  rw [List.getElem?_eq_getElem h] at e ⊢
  simpa using e

set_option maxHeartbeats 400000 in
theorem last47 (g e cap : Nat) (zs : List Int) (w : World) (hr : RowB w g zs) (he : e ≤ zs.length) (hs : e ≤ 4194304) :
    Calls Try.prog 47 #[.slice (some ⟨g, 0, none⟩) e cap, .int .u8 10] w fun x w' => x = .returned (.int .i64 (Rec.lastI zs e)) ∧ w' = w := by
  have hc := hr.1
  clear hr
  go_enter Try.func47, Try.ntmps47
  go_wp2
  go_loop [5] (fun i => (i = .int .i64 (-1) ∧ Hid (Rec.lastI zs e = -1)) ∨ ∃ m : Nat, m < e ∧ i = .int .i64 m ∧ Hid (Rec.lastI zs e = Rec.lastI zs (m + 1))) (fun i => (intOf i + 1).toNat)
  case atStart =>
    rcases e with _ | m
    · exact Or.inl ⟨by simp, rfl⟩
    · exact Or.inr ⟨m, by omega, by go_num, rfl⟩
  case round =>
    rcases hrel with ⟨rfl, H⟩ | ⟨m, hm, rfl, H⟩
    · go_wp2
      go_ret
      exact ⟨by rw [H.out]; rfl, rfl⟩
    · have hcm := hc m (by omega)
      clear hc
      go_wp2
      · have h10 : (zs[m]?.getD 0 == 10) = true := by assumption
        have H2 := H.out.trans (Rec.lastI_hit zs m (at_yes (by omega) h10))
        go_ret
        exact ⟨by rw [H2]; rfl, rfl⟩
      · have h10 : (zs[m]?.getD 0 == 10) = false := by assumption
        have H2 := H.out.trans (Rec.lastI_miss zs m (at_no (by omega) h10))
        go_round
        case rel =>
          rcases m with _ | m
          · exact Or.inl ⟨by go_num, H2⟩
          · exact Or.inr ⟨m, by omega, by go_num, H2⟩
        case measure => simp [intOf]

set_option maxHeartbeats 400000 in
theorem last43 (g e cap : Nat) (zs : List Int) (w : World) (hr : RowB w g zs) (he : e ≤ zs.length) (hs : e ≤ 4194304) :
    Calls Try.prog 43 #[.slice (some ⟨g, 0, none⟩) e cap, .int .u8 10] w fun x w' => x = .returned (.int .i64 (Rec.lastI zs e)) ∧ w = w' := by
  have HR : Hid (RowB w g zs) := hr
  clear hr
  go_enter Try.func43, Try.ntmps43
  go_wp2_with (go_at_call 47; refine (last47 g e cap zs _ HR.out he hs).mono ?_; rintro x w' ⟨rfl, rfl⟩)
  go_ret
  exact ⟨rfl, rfl⟩

theorem count_eq (xs : List Int) (h : ∀ z ∈ xs, 0 ≤ z ∧ z < 256) : Lib.countByte (Lib.bytesOf xs) (34 : Int).toNat.toUInt8 = xs.count 34 := by
  unfold Lib.countByte Lib.bytesOf
  induction xs with
  | nil => rfl
  | cons x xs ih =>
    have hx := h x (List.mem_cons_self ..)
    rw [List.map_cons, List.count_cons, List.count_cons, ih (fun z hz => h z (List.mem_cons_of_mem _ hz))]
    have e : (UInt8.ofNat x.toNat == (34 : Int).toNat.toUInt8) = (x == 34) := by
      rw [Bool.eq_iff_iff, beq_iff_eq, beq_iff_eq]
      constructor
      · intro h1
        have h2 := congrArg UInt8.toNat h1
        have h4 : (UInt8.ofNat x.toNat).toNat = x.toNat := UInt8.toNat_ofNat_of_lt' (by show x.toNat < 256; omega)
        have h3 : ((34 : Int).toNat.toUInt8).toNat = 34 := by decide
        omega
      · rintro rfl
        decide
    rw [e]

/-- bytes.Count of a cut of the row -/
theorem count42 (g o n c b2 : Nat) (zs : List Int) (w : World) (hr : RowB w g zs) (hn : o + n ≤ zs.length) (h2 : w.cell? ⟨b2, 0, none⟩ = some (.int .u8 34)) :
    Calls Try.prog 42 #[.slice (some ⟨g, o, none⟩) n c, .slice (some ⟨b2, 0, none⟩) 1 1] w fun x w' => x = .returned (.int .i64 ((((zs.drop o).take n).count 34 : Nat) : Int)) ∧ w = w' := by
  have hm : ∀ z ∈ (zs.drop o).take n, 0 ≤ z ∧ z < 256 := fun z hz => hr.2 z (List.mem_of_mem_drop (List.mem_of_mem_take hz))
  refine (Try.bytes_Count_one g o n c b2 0 1 ((zs.drop o).take n) 34 w (by rw [List.length_take, List.length_drop]; omega) ?_ h2).mono ?_
  · intro i hi
    rw [hr.1 (o + i) (by omega)]
    congr 2
    rw [List.getD_eq_getElem?_getD, List.getD_eq_getElem?_getD, List.getElem?_take_of_lt hi, List.getElem?_drop]
  · rintro x w' ⟨rfl, rfl⟩
    exact ⟨by rw [count_eq _ hm], rfl⟩

theorem RowB.below {w w' : World} {g : Nat} {zs : List Int} (h : RowB w g zs) (hg : g < w.heap.size) (hb : Below w.heap.size w w') : RowB w' g zs :=
  ⟨fun i hi => (hb.cell (p := ⟨g, i, none⟩) hg).trans (h.1 i hi), h.2⟩
theorem RowB.alloc {w : World} {g : Nat} {zs : List Int} (h : RowB w g zs) (hg : g < w.heap.size) (o : Obj) : RowB (w.alloc o) g zs :=
  h.below hg ((Below.refl _ _).alloc (Nat.le_refl _) _)

set_option maxHeartbeats 1000000 in
theorem rec41 (g n cap : Nat) (zs : List Int) (w : World) (hg : g < w.heap.size) (hr : RowB w g zs) (hn : zs.length = n) (hcap : n ≤ cap) (hs : n ≤ 1048576) :
    Calls Try.prog 41 #[.slice (some ⟨g, 0, none⟩) n cap] w fun x w' => x = .returned (.int .i64 (Rec.rEnd zs : Nat)) ∧ Below w.heap.size w w' := by
  have HR : Hid (RowB w g zs) := hr
  have HN : Hid (zs.length = n) := hn
  have hq0 : Hid (((zs.drop 0).take n).count 34 = Rec.qs zs n) := by show _ = _; unfold Rec.qs; rw [List.drop_zero]
  clear hr hn
  go_enter Try.func41, Try.ntmps41
  go_wp2_with (go_at_call 42; go_must (refine (count42 g 0 n cap w.heap.size zs _ (HR.out.alloc hg _) (by have := HN.out; omega) (by simp)).mono ?_; rintro x w' ⟨rfl, rfl⟩; rw [hq0.out]))
  go_loopw [3, 4, 5] (fun q e _ wr => ∃ m : Nat, m ≤ n ∧ e = .int .i64 m ∧ q = .int .i64 (Rec.qs zs m : Nat) ∧ Hid (Rec.rEnd zs = Rec.rE zs m) ∧ Below w.heap.size w wr) (fun _ e _ _ => (intOf e).toNat)
  case atStart => exact ⟨n, Nat.le_refl _, rfl, rfl, by show Rec.rE zs zs.length = _; rw [HN.out], (Below.refl _ _).alloc (Nat.le_refl _) _⟩
  case round =>
    obtain ⟨m, hm, rfl, rfl, H, hbel⟩ := hrel
    have hsz := hbel.size
    have HR2 : Hid (RowB wr g zs) := HR.out.below hg hbel
    have hq := Rec.qs_le zs m
    rcases Rec.lastI_spec zs m with ⟨h1, h2⟩ | ⟨i, h1, h2, h3, h4⟩
    · have H2 : Hid (Rec.rEnd zs = 0) := H.out.trans (Rec.rE_none zs m h2)
      have h1' : Hid (Rec.lastI zs m = -1) := h1
      clear h1 h2 H
      go_wp2_with (first | (go_at_call 43; go_must (refine (last43 g m cap zs _ HR2.out (by have := HN.out; omega) (by omega)).mono ?_; rintro x w' ⟨rfl, rfl⟩; rw [h1'.out])))
      go_ret
      exact ⟨by rw [H2.out]; rfl, hbel⟩
    · have H2 := H.out.trans (Rec.rE_last zs m i h2 h3 h4)
      have h1' : Hid (Rec.lastI zs m = i) := h1
      have hcut : Hid (((zs.drop i).take (m - i)).count 34 = Rec.qs zs m - Rec.qs zs i) := Rec.qs_cut zs i m (by omega)
      have hmono := Rec.qs_mono zs i m (by omega)
      by_cases hev : Rec.qs zs i % 2 = 0
      · have H3 : Hid (Rec.rEnd zs = i + 1) := by rw [if_pos hev] at H2; exact H2
        clear h1 h3 h4 H H2
        go_wp2_with (first | (go_at_call 43; go_must (refine (last43 g m cap zs _ HR2.out (by have := HN.out; omega) (by omega)).mono ?_; rintro x w' ⟨rfl, rfl⟩; rw [h1'.out])) | (go_at_call 42; go_must (refine (count42 g i (m - i) _ _ zs _ (HR2.out.alloc (by omega) _) (by have := HN.out; omega) (by simp)).mono ?_; rintro x w' ⟨rfl, rfl⟩; rw [hcut.out])))
        go_ret
        exact ⟨by rw [H3.out]; rfl, hbel.alloc (by omega) _⟩
      · have H3 : Hid (Rec.rEnd zs = Rec.rE zs i) := by rw [if_neg hev] at H2; exact H2
        clear h1 h3 h4 H H2
        go_wp2_with (first | (go_at_call 43; go_must (refine (last43 g m cap zs _ HR2.out (by have := HN.out; omega) (by omega)).mono ?_; rintro x w' ⟨rfl, rfl⟩; rw [h1'.out])) | (go_at_call 42; go_must (refine (count42 g i (m - i) _ _ zs _ (HR2.out.alloc (by omega) _) (by have := HN.out; omega) (by simp)).mono ?_; rintro x w' ⟨rfl, rfl⟩; rw [hcut.out])))
        go_roundw
        case rel => exact ⟨i, by omega, rfl, by go_num, H3, hbel.alloc (by omega) _⟩
        case measure => simp [intOf]; omega

set_option maxHeartbeats 400000 in
theorem last47_nil (w : World) :
    Calls Try.prog 47 #[.slice none 0 0, .int .u8 10] w fun x w' => x = .returned (.int .i64 (-1)) ∧ w' = w := by
  go_enter Try.func47, Try.ntmps47
  go_wp2
  refine wp_loop_rounds 1 ?_
  rw [rounds_succ]
  go_wp2
  go_ret
  exact ⟨rfl, rfl⟩
set_option maxHeartbeats 400000 in
theorem last43_nil (w : World) :
    Calls Try.prog 43 #[.slice none 0 0, .int .u8 10] w fun x w' => x = .returned (.int .i64 (-1)) ∧ w' = w := by
  go_enter Try.func43, Try.ntmps43
  go_wp2_with (go_at_call 47; refine (last47_nil _).mono ?_; rintro x w' ⟨rfl, rfl⟩)
  go_ret
  exact ⟨rfl, rfl⟩
set_option maxHeartbeats 400000 in
theorem rec41_nil (w : World) :
    Calls Try.prog 41 #[.slice none 0 0] w fun x w' => x = .returned (.int .i64 0) ∧ Below w.heap.size w w' := by
  go_enter Try.func41, Try.ntmps41
  go_wp2_with (go_at_call 42; go_must (refine (Try.bytes_Count_one_nil w.heap.size 0 1 34 _ (by simp)).mono ?_; rintro x w' ⟨rfl, rfl⟩))
  refine wp_loop_rounds 1 ?_
  rw [rounds_succ]
  go_wp2_with (go_at_call 43; go_must (refine (last43_nil _).mono ?_; rintro x w' ⟨rfl, rfl⟩))
  go_ret
  exact ⟨rfl, (Below.refl _ _).alloc (Nat.le_refl _) _⟩

/-! ### ZZRecordsEnd -/
set_option maxHeartbeats 400000 in
theorem rec30 (g n cap : Nat) (zs : List Int) (w : World) (hg : g < w.heap.size) (hr : RowB w g zs) (hn : zs.length = n) (hcap : n ≤ cap) (hs : n ≤ 1048576) :
    Calls Try.prog 30 #[.slice (some ⟨g, 0, none⟩) n cap] w fun x w' => x = .returned (.int .i64 (Rec.rEnd zs : Nat)) ∧ Below w.heap.size w w' := by
  have HR : Hid (RowB w g zs) := hr
  have HN : Hid (zs.length = n) := hn
  clear hr hn
  go_enter Try.func30, Try.ntmps30
  go_wp2_with (go_at_call 41; go_must (refine (rec41 g n cap zs _ hg HR.out HN.out hcap hs).mono ?_; rintro x w' ⟨rfl, hb⟩))
  go_ret
  exact ⟨rfl, hb⟩
set_option maxHeartbeats 400000 in
theorem rec30_nil (w : World) :
    Calls Try.prog 30 #[.slice none 0 0] w fun x w' => x = .returned (.int .i64 0) ∧ Below w.heap.size w w' := by
  go_enter Try.func30, Try.ntmps30
  go_wp2_with (go_at_call 41; go_must (refine (rec41_nil _).mono ?_; rintro x w' ⟨rfl, hb⟩))
  go_ret
  exact ⟨rfl, hb⟩

/-! ### zzRecordsEndModel -/
theorem at_is {zs : List Int} {m : Nat} {c : Int} (h : m < zs.length) (e : zs[m]?.getD 0 = c) : zs[m]? = some c := at_yes h (beq_iff_eq.2 e)
theorem at_isnt {zs : List Int} {m : Nat} {c : Int} (h : m < zs.length) (e : ¬ zs[m]?.getD 0 = c) : zs[m]? ≠ some c := at_no h (beq_eq_false_iff_ne.2 e)
theorem qs_yes {zs : List Int} {k : Nat} (h : k < zs.length) (e : zs[k]? = some 34) : Rec.qs zs (k + 1) = Rec.qs zs k + 1 := by
  rw [List.getElem?_eq_getElem h, Option.some.injEq] at e
  rw [Rec.qs_succ zs k h, if_pos e]
theorem qs_no {zs : List Int} {k : Nat} (h : k < zs.length) (e : zs[k]? ≠ some 34) : Rec.qs zs (k + 1) = Rec.qs zs k := by
  rw [Rec.qs_succ zs k h, if_neg (fun e' => e (by rw [List.getElem?_eq_getElem h, e']))]
  rfl
set_option maxHeartbeats 1000000 in
theorem mod31 (g n cap : Nat) (zs : List Int) (w : World) (hr : RowB w g zs) (hn : zs.length = n) (hcap : n ≤ cap) (hs : n ≤ 1048576) :
    Calls Try.prog 31 #[.slice (some ⟨g, 0, none⟩) n cap] w fun x w' => x = .returned (.int .i64 (Rec.rEnd zs : Nat)) ∧ w = w' := by
  have hc := hr.1
  have HN : Hid (zs.length = n) := hn
  clear hr
  go_enter Try.func31, Try.ntmps31
  go_wp2
  go_loop [3, 4, 5] (fun q b i => ∃ k : Nat, k ≤ n ∧ i = .int .i64 k ∧ q = .int .i64 (Rec.qs zs k : Nat) ∧ b = .int .i64 (Rec.rE zs k : Nat)) (fun _ _ i => n - (intOf i).toNat)
  case atStart => exact ⟨0, Nat.zero_le _, rfl, by rw [Rec.qs_zero]; rfl, rfl⟩
  case round =>
    obtain ⟨k, hk, rfl, rfl, rfl⟩ := hrel
    have hq := Rec.qs_le zs k
    have hb := Rec.rE_le zs k
    by_cases hlt : k < n
    · have hcm := hc k (by omega)
      have hl : Hid (k < zs.length) := by show k < zs.length; omega
      clear hc hn
      go_wp2
      · have h1 : (zs[k]?.getD 0 == 34) = true := by assumption
        have h2 : ¬ zs[k]?.getD 0 = 10 := by assumption
        have e1 := qs_yes hl.out (at_yes hl.out h1)
        have e2 := Rec.rE_miss zs k (fun h => at_isnt hl.out h2 h.1)
        go_round
        case rel => exact ⟨k + 1, by omega, by go_num, by rw [e1]; go_num, by rw [e2]⟩
        case measure => simp [intOf]; omega
      · have h1 : (zs[k]?.getD 0 == 34) = false := by assumption
        have h2 : zs[k]?.getD 0 = 10 := by assumption
        have h3 : (((Rec.qs zs k : Nat) : Int) % 2 == 0) = true := by assumption
        have e1 := qs_no hl.out (at_no hl.out h1)
        have e2 := Rec.rE_hit zs k (at_is hl.out h2) (by have := beq_iff_eq.1 h3; omega)
        go_round
        case rel => exact ⟨k + 1, by omega, by go_num, by rw [e1], by rw [e2]; go_num⟩
        case measure => simp [intOf]; omega
      · have h1 : (zs[k]?.getD 0 == 34) = false := by assumption
        have h3 : (((Rec.qs zs k : Nat) : Int) % 2 == 0) = false := by assumption
        have e1 := qs_no hl.out (at_no hl.out h1)
        have e2 := Rec.rE_miss zs k (fun h => by have h4 := beq_eq_false_iff_ne.1 h3; have h5 := h.2; omega)
        go_round
        case rel => exact ⟨k + 1, by omega, by go_num, by rw [e1], by rw [e2]⟩
        case measure => simp [intOf]; omega
      · have h1 : (zs[k]?.getD 0 == 34) = false := by assumption
        have h2 : ¬ zs[k]?.getD 0 = 10 := by assumption
        have e1 := qs_no hl.out (at_no hl.out h1)
        have e2 := Rec.rE_miss zs k (fun h => at_isnt hl.out h2 h.1)
        go_round
        case rel => exact ⟨k + 1, by omega, by go_num, by rw [e1], by rw [e2]⟩
        case measure => simp [intOf]; omega
    · have e : Hid (Rec.rEnd zs = Rec.rE zs k) := by show Rec.rE zs zs.length = _; congr 1; omega
      clear hc hn
      go_wp2
      go_ret
      exact ⟨by rw [e.out]; rfl, rfl⟩
set_option maxHeartbeats 400000 in
theorem mod31_nil (w : World) :
    Calls Try.prog 31 #[.slice none 0 0] w fun x w' => x = .returned (.int .i64 0) ∧ w = w' := by
  go_enter Try.func31, Try.ntmps31
  go_wp2
  refine wp_loop_rounds 1 ?_
  rw [rounds_succ]
  go_wp2
  go_ret
  exact ⟨rfl, rfl⟩

/-! ### zzCloneBytes -/
theorem info5 : (Try.prog.info? 5).map (fun i => (i.zero, i.size, i.bytes)) = some (some (.int .u8 0), 1, 1) := by kernel_rfl

/-- block g, of the call's own, holds the n numbers ys and nothing else -/
def Filled (w : World) (g n : Nat) (ys : List Int) : Prop := ys.length = n ∧ w.ownsRow g 5 1 (.slice (some ⟨g, 0, none⟩) n n) n (ys.map (Value.int .u8))
theorem Filled.made {w : World} {g n : Nat} (h : w.ownsRow g 5 1 (.slice (some ⟨g, 0, none⟩) n n) n (madeCells (Value.int .u8 0).cells (n * 1)).toList) : Filled w g n (List.replicate n 0) := by
  refine ⟨by simp, ?_⟩
  have e : (madeCells (Value.int .u8 0).cells (n * 1)).toList = (List.replicate n (0 : Int)).map (Value.int .u8) := by
    rw [Nat.mul_one, List.map_replicate]
    exact toList_madeCells_one _ _
  rw [← e]
  exact h
theorem Filled.cell {w : World} {g n : Nat} {ys : List Int} (h : Filled w g n ys) (j : Nat) (hj : j < n) : w.cell? ⟨g, j, none⟩ = some (.int .u8 (ys.getD j 0)) := by
  have hl := h.1
  rw [h.2.cellAt j (by omega), List.getElem?_map, getD_some (by omega)]
  rfl
theorem Filled.frozen {w : World} {g n : Nat} {ys : List Int} (h : Filled w g n ys) (j : Nat) : w.frozen? ⟨g, j, none⟩ = false := h.2.frozenAt j
theorem Filled.put {w : World} {g n : Nat} {ys : List Int} (h : Filled w g n ys) (j : Nat) (z : Int) : Filled (w.setCell ⟨g, j, none⟩ (.int .u8 z)) g n (ys.set j z) := by
  refine ⟨by rw [List.length_set]; exact h.1, ?_⟩
  have := (h.2.stored j (.int .u8 z)).1
  rw [List.map_set]
  exact this
theorem Filled.row {w : World} {g n : Nat} {ys : List Int} (h : Filled w g n ys) (hb : ∀ z ∈ ys, 0 ≤ z ∧ z < 256) : RowB w g ys :=
  ⟨fun i hi => h.cell i (by rw [← h.1]; exact hi), hb⟩
theorem Filled.lt {w : World} {g n : Nat} {ys : List Int} (h : Filled w g n ys) : g < w.heap.size := by
  rcases h.2.2 with ⟨h', _⟩ | ⟨g', cap, cur, hv, _, hg, _⟩
  · simp at h'
  · simp only [Value.slice.injEq, Option.some.injEq, Addr.mk.injEq, and_true, true_and] at hv
    obtain ⟨rfl, rfl⟩ := hv
    rcases Nat.lt_or_ge g w.heap.size with h' | h'
    · exact h'
    · simp [Array.getElem?_eq_none h'] at hg
theorem getD_set_same {ys : List Int} {k : Nat} {z : Int} (h : k < ys.length) : (ys.set k z).getD k 0 = z := by
  rw [List.getD_eq_getElem?_getD, List.getElem?_set_self h]; rfl
theorem getD_set_other {ys : List Int} {k j : Nat} {z : Int} (h : k ≠ j) : (ys.set k z).getD j 0 = ys.getD j 0 := by
  rw [List.getD_eq_getElem?_getD, List.getD_eq_getElem?_getD, List.getElem?_set_ne h]
theorem eq_of_getD {xs ys : List Int} (hl : xs.length = ys.length) (h : ∀ j, j < ys.length → xs.getD j 0 = ys.getD j 0) : xs = ys := by
  refine List.ext_getElem hl ?_
  intro j h1 h2
  have := h j h2
  rw [List.getD_eq_getElem?_getD, List.getD_eq_getElem?_getD, List.getElem?_eq_getElem h1, List.getElem?_eq_getElem h2] at this
  exact this

set_option maxHeartbeats 1000000 in
theorem clone29_row (b off n cap : Nat) (zs : List Int) (w : World) (hz : zs.length = n) (hcap : n ≤ cap) (hs : n ≤ 1048576) (hx : b < w.heap.size)
    (hc : ∀ i, i < n → w.cell? ⟨b, off + i, none⟩ = some (.int .u8 (zs.getD i 0))) :
    Calls Try.prog 29 #[.slice (some ⟨b, off, none⟩) n cap] w fun e w' => e = .returned (.slice (some ⟨w.heap.size, 0, none⟩) n n) ∧ Filled w' w.heap.size n zs ∧ Below w.heap.size w w' := by
  obtain ⟨i0, hi, hz0, hz1, hz2⟩ := info_parts info5
  have HC : Hid (∀ i, i < n → w.cell? ⟨b, off + i, none⟩ = some (.int .u8 (zs.getD i 0))) := hc
  have HZ : Hid (zs.length = n) := hz
  clear hc hz
  have kn := Lib.run_eql_slice_nil (P := Try.prog)
  go_enter Try.func29, Try.ntmps29
  go_wp2_with (at_make; go_must (refine wpList_make_full _ rfl _ _ 55 rfl w.heap.size 5 i0 (.int .u8 0) 1 Try.underlying55 hi hz0 hz1 .i64 .i64 _ _ n rfl rfl rfl rfl (by rw [hz2]; omega) (by unfold maxLen; omega) (Nat.le_refl _) ?_; intro w1 hown1 hg1))
  have hF := Filled.made hown1
  have hb1 : Below w.heap.size w w1 := (Below.refl _ _).grown hg1 (Nat.le_refl _) (by simp)
  clear hown1 hg1 kn
  go_loopw [4] (fun i wr => ∃ (k : Nat) (ys : List Int), k ≤ n ∧ i = .int .i64 k ∧ Filled wr w.heap.size n ys ∧ Below w.heap.size w wr ∧ Hid (∀ j, j < k → ys.getD j 0 = zs.getD j 0)) (fun i _ => n - (intOf i).toNat)
  case atStart => exact ⟨0, _, Nat.zero_le _, rfl, hF, hb1, fun j hj => absurd hj (by omega)⟩
  case round =>
    clear hF hb1
    obtain ⟨k, ys, hk, rfl, hF, hbel, H⟩ := hrel
    by_cases hlt : k < n
    · have hc1 : wr.cell? ⟨b, off + k, none⟩ = some (.int .u8 (zs.getD k 0)) := (hbel.cell (p := ⟨b, off + k, none⟩) hx).trans (HC.out k hlt)
      have hc2 := hF.cell k hlt
      have hf2 := hF.frozen k
      go_wp2
      have R := hF.put k (zs[k]?.getD 0)
      have hl := hF.1
      have H2 : Hid (∀ j, j < k + 1 → (ys.set k (zs[k]?.getD 0)).getD j 0 = zs.getD j 0) := by
        intro j hj
        by_cases e : k = j
        · rw [← e, getD_set_same (by omega), List.getD_eq_getElem?_getD]
        · rw [getD_set_other e]; exact H.out j (by omega)
      go_roundw
      case rel => exact ⟨k + 1, _, by omega, by go_num, R, hbel.setCell (p := ⟨w.heap.size, k, none⟩) (Nat.le_refl _) _, H2⟩
      case measure => simp [intOf]; omega
    · have e : Hid (ys = zs) := eq_of_getD (by rw [hF.1, HZ.out]) (fun j hj => H.out j (by have := HZ.out; omega))
      go_wp2
      go_ret
      exact ⟨rfl, e.out ▸ hF, hbel⟩

set_option maxHeartbeats 400000 in
theorem clone29_zero (x : Addr) (cap : Nat) (w : World) :
    Calls Try.prog 29 #[.slice (some x) 0 cap] w fun e w' => e = .returned (.slice (some ⟨w.heap.size, 0, none⟩) 0 0) ∧ Filled w' w.heap.size 0 [] ∧ Below w.heap.size w w' := by
  obtain ⟨i0, hi, hz0, hz1, hz2⟩ := info_parts info5
  have kn := Lib.run_eql_slice_nil (P := Try.prog)
  go_enter Try.func29, Try.ntmps29
  go_wp2_with (at_make; go_must (refine wpList_make_full _ rfl _ _ 55 rfl w.heap.size 5 i0 (.int .u8 0) 1 Try.underlying55 hi hz0 hz1 .i64 .i64 _ _ 0 rfl rfl rfl rfl (by rw [hz2]; omega) (by unfold maxLen; omega) (Nat.le_refl _) ?_; intro w1 hown1 hg1))
  have hF := Filled.made hown1
  have hb1 : Below w.heap.size w w1 := (Below.refl _ _).grown hg1 (Nat.le_refl _) (by simp)
  clear hown1 hg1 kn
  refine wp_loop_rounds 1 ?_
  rw [rounds_succ]
  go_wp2
  go_ret
  exact ⟨rfl, hF, hb1⟩
set_option maxHeartbeats 400000 in
theorem clone29_nil (w : World) :
    Calls Try.prog 29 #[.slice none 0 0] w fun e w' => e = .returned (.slice none 0 0) ∧ w = w' := by
  have kn := Lib.run_eql_slice_nil (P := Try.prog)
  go_enter Try.func29, Try.ntmps29
  go_wp2
  go_ret
  exact ⟨rfl, rfl⟩

/-- a slice of bytes that came in, not nil: as its cells are told by the row -/
def Came (w : World) (x : Addr) (n : Nat) (zs : List Int) : Prop := zs.length = n ∧ (∀ z ∈ zs, 0 ≤ z ∧ z < 256) ∧ ∀ i, i < n → w.cell? (x.add i) = some (.int .u8 (zs.getD i 0))
theorem Came.below {w w' : World} {x : Addr} {n : Nat} {zs : List Int} (h : Came w x n zs) (hb : Below w.heap.size w w') : Came w' x n zs := by
  refine ⟨h.1, h.2.1, fun i hi => ?_⟩
  have hc := h.2.2 i hi
  have hlt : (x.add i).block < w.heap.size := by
    rcases Nat.lt_or_ge (x.add i).block w.heap.size with h' | h'
    · exact h'
    · exfalso
      have : w.heap[(x.add i).block]? = none := Array.getElem?_eq_none h'
      unfold World.cell? at hc
      simp [this] at hc
  exact (hb.cell hlt).trans hc

theorem came_of {w : World} {x : Addr} {n cap : Nat} {zs : List Int} (hl : n ≤ cap) (hz : zs.length = cap) (hc : ∀ i, i < zs.length → w.cell? (x.add i) = some (.int .u8 (zs.getD i 0))) (hwf : ∀ z ∈ zs, (Lit.int .u8 z).wf = true) : Came w x n (zs.take n) := by
  refine ⟨by rw [List.length_take]; omega, fun z h => ?_, fun i hi => ?_⟩
  · have := Go.bounds_u8 (hwf z (List.mem_of_mem_take h))
    omega
  · rw [hc i (by omega), List.getD_eq_getElem?_getD, List.getD_eq_getElem?_getD, List.getElem?_take_of_lt hi]

theorem clone29_any (x : Addr) (n cap : Nat) (zs : List Int) (w : World) (h : Came w x n zs) (hcap : n ≤ cap) (hs : n ≤ 1048576) :
    Calls Try.prog 29 #[.slice (some x) n cap] w fun e w' => e = .returned (.slice (some ⟨w.heap.size, 0, none⟩) n n) ∧ Filled w' w.heap.size n zs ∧ Below w.heap.size w w' := by
  obtain ⟨h1, h2, h3⟩ := h
  by_cases h0 : n = 0
  · subst h0
    have : zs = [] := List.eq_nil_of_length_eq_zero h1
    subst this
    exact clone29_zero x cap w
  · obtain ⟨b, off, rfl, hc⟩ := ints_at (w := w) (a := x) (k := .u8) (zs := zs) (fun i hi => h3 i (by omega)) (by omega)
    have hb : b < w.heap.size := by
      have hc0 := hc 0 (by omega)
      rcases Nat.lt_or_ge b w.heap.size with h' | h'
      · exact h'
      · exfalso
        have : w.heap[b]? = none := Array.getElem?_eq_none h'
        simp [World.cell?, this] at hc0
    exact clone29_row b off n cap zs w h1 hcap hs hb (fun i hi => hc i (by omega))
end Go.Proofs.Qxb6003232a
