/-
  THE WALK OF FnRecordsEndCutIsStableAndOnlyGrows.
-/
import Derived.Test.Qxb6003232aRecw
namespace Go.Proofs.Qxb6003232a
open Go.RowKit
set_option linter.unusedVariables false

theorem RowB.belowB {w w' : World} {B g : Nat} {zs : List Int} (h : RowB w g zs) (hg : g < B) (hb : Below B w w') : RowB w' g zs :=
  ⟨fun i hi => (hb.cell (p := ⟨g, i, none⟩) hg).trans (h.1 i hi), h.2⟩
theorem RowB.cut {w : World} {g : Nat} {zs : List Int} (h : RowB w g zs) (r : Nat) : RowB w g (zs.take r) := by
  refine ⟨fun i hi => ?_, fun z hz => h.2 z (List.mem_of_mem_take hz)⟩
  rw [List.length_take] at hi
  rw [h.1 i (by omega), List.getD_eq_getElem?_getD, List.getD_eq_getElem?_getD, List.getElem?_take_of_lt (by omega)]
theorem RowB.at {w : World} {g : Nat} {zs : List Int} (h : RowB w g zs) (i : Nat) (hi : i < zs.length) : w.cell? ⟨g, i, none⟩ = some (.int .u8 (zs.getD i 0)) := h.1 i hi

/-- has the first k a line break? -/
def brk (zs : List Int) (k : Nat) : Bool := decide (10 ∈ zs.take k)
theorem brk_zero (zs : List Int) : brk zs 0 = false := by simp [brk]
theorem brk_yes {zs : List Int} {k : Nat} (h : k < zs.length) (e : zs[k]? = some 10) : brk zs (k + 1) = true := by
  unfold brk
  rw [decide_eq_true_iff, List.take_succ_eq_append_getElem h]
  rw [List.getElem?_eq_getElem h, Option.some.injEq] at e
  simp [e]
theorem brk_no {zs : List Int} {k : Nat} (h : k < zs.length) (e : zs[k]? ≠ some 10) : brk zs (k + 1) = brk zs k := by
  unfold brk
  rw [List.getElem?_eq_getElem h] at e
  have e' : ¬ (10 : Int) = zs[k] := fun h' => e (by rw [← h'])
  have e2 : (10 ∈ zs.take (k + 1)) ↔ (10 ∈ zs.take k) := by
    rw [List.take_succ_eq_append_getElem h, List.mem_append, List.mem_singleton]
    exact ⟨fun h' => h'.elim id (fun h'' => absurd h'' e'), Or.inl⟩
  exact decide_eq_decide.2 e2
theorem brk_end {zs : List Int} {k : Nat} (h : zs.length ≤ k) : brk zs k = decide (10 ∈ zs) := by
  unfold brk; rw [List.take_of_length_le h]
theorem same_end {xs ys : List Int} {k : Nat} (h : ys.length ≤ k) (hb : brk ys k = false) : Rec.rEnd (xs ++ ys) = Rec.rEnd xs := by
  rw [brk_end h, decide_eq_false_iff_not] at hb
  exact Rec.rEnd_append_eq xs ys hb

/-- two lists laid one behind the other -/
theorem joined_eq {xs ys zs : List Int} (hl : zs.length = xs.length + ys.length) (h1 : ∀ j, j < xs.length → zs.getD j 0 = xs.getD j 0) (h2 : ∀ j, j < ys.length → zs.getD (xs.length + j) 0 = ys.getD j 0) : zs = xs ++ ys := by
  refine eq_of_getD (by rw [hl, List.length_append]) ?_
  intro j hj
  rw [List.length_append] at hj
  by_cases h : j < xs.length
  · rw [h1 j h, List.getD_eq_getElem?_getD, List.getD_eq_getElem?_getD, List.getElem?_append_left h]
  · have e : j = xs.length + (j - xs.length) := by omega
    rw [e, h2 (j - xs.length) (by omega), List.getD_eq_getElem?_getD, List.getD_eq_getElem?_getD, List.getElem?_append_right (by omega)]
    congr 2
    omega

set_option maxHeartbeats 400000 in
theorem zz32 (a b : Option Addr) (n cap m cap' : Nat) (w : World) (hT : n + m ≤ 1048576) :
    Calls Try.prog 32 #[.slice a n cap, .slice b m cap'] w fun e w' => e = .returned (.bool true) ∧ w = w' := by
  go_enter Try.func32, Try.ntmps32
  go_wp2
  go_ret
  exact ⟨rfl, rfl⟩

set_option maxHeartbeats 4000000 in
set_option maxRecDepth 100000 in
theorem end2_rr (x0 : Addr) (n0 cap0 : Nat) (zs : List Int) (x1 : Addr) (n1 cap1 : Nat) (ts : List Int) (w : World) (h0 : Came w x0 n0 zs) (h1 : Came w x1 n1 ts) (hc0 : n0 ≤ cap0) (hc1 : n1 ≤ cap1) (s0 : n0 ≤ 524288) (s1 : n1 ≤ 524288) :
    Calls Try.prog 7 #[.slice (some x0) n0 cap0, .slice (some x1) n1 cap1] w fun e w' => e = .returned (.bool true) ∧ Below w.heap.size w w' := by
  obtain ⟨i0, hi, hz0, hz1, hz2⟩ := info_parts info5
  have H0 : Hid (Came w x0 n0 zs) := h0
  have H1 : Hid (Came w x1 n1 ts) := h1
  have L0 : Hid (zs.length = n0) := h0.1
  have L1 : Hid (ts.length = n1) := h1.1
  have hr : Rec.rEnd zs ≤ n0 := by have := Rec.rE_le zs zs.length; rw [h0.1] at this; unfold Rec.rEnd; rw [h0.1]; exact this
  have hcutE : Hid (Rec.rEnd (zs.take (Rec.rEnd zs)) = Rec.rEnd zs) := Rec.rEnd_take zs
  have hge : Hid (Rec.rEnd zs ≤ Rec.rEnd (zs ++ ts)) := Rec.rEnd_append_ge zs ts
  clear h0 h1
  go_enter Try.func7, Try.ntmps7
  go_wp2_with (go_at_call 32; refine (zz32 _ _ _ _ _ _ _ (by omega)).mono ?_; rintro e w' ⟨rfl, rfl⟩)
  refine (clone29_any x0 n0 cap0 zs _ H0.out hc0 (by omega)).mono ?_
  rintro e w1 ⟨rfl, F0, b1⟩
  go_wp2_with fail
  refine (clone29_any x1 n1 cap1 ts _ (H1.out.below b1) hc1 (by omega)).mono ?_
  rintro e w2 ⟨rfl, F1, b2⟩
  have A1 : w.heap.size < w1.heap.size := F0.lt
  have A2 : w1.heap.size < w2.heap.size := F1.lt
  have R0 : Hid (RowB w2 w.heap.size zs) := (F0.row H0.out.2.1).below A1 b2
  have R1 : Hid (RowB w2 w1.heap.size ts) := F1.row H1.out.2.1
  clear F0 F1
  have b2' : Below w.heap.size w w2 := b1.trans (b2.mono (by omega))
  clear b1 b2
  go_wp2_with fail
  refine (rec30 w.heap.size n0 n0 zs _ (by omega) R0.out L0.out (Nat.le_refl _) (by omega)).mono ?_
  rintro e w3 ⟨rfl, b3⟩
  have R0' : Hid (RowB w3 w.heap.size zs) := R0.out.below (by omega) b3
  have R1' : Hid (RowB w3 w1.heap.size ts) := R1.out.below (by omega) b3
  have A3 := b3.size
  clear R0 R1
  go_wp2_with fail
  refine (mod31 w.heap.size n0 n0 zs _ R0'.out L0.out (Nat.le_refl _) (by omega)).mono ?_
  rintro e w4 ⟨rfl, rfl⟩
  go_wp2_with fail
  refine (rec30 w.heap.size (Rec.rEnd zs) n0 (zs.take (Rec.rEnd zs)) _ (by omega) (R0'.out.cut _) (by rw [List.length_take]; have := L0.out; omega) (by omega) (by omega)).mono ?_
  rintro e w4 ⟨rfl, b4⟩
  rw [hcutE.out]
  have R0 : Hid (RowB w4 w.heap.size zs) := R0'.out.below (by omega) b4
  have R1 : Hid (RowB w4 w1.heap.size ts) := R1'.out.below (by omega) b4
  have A4 := b4.size
  have bw : Below w.heap.size w w4 := (b2'.trans (b3.mono (by omega))).trans (b4.mono (by omega))
  clear R0' R1' b2' b3 b4
  go_wp2_with (at_make; go_must (refine wpList_make_full _ rfl _ _ 55 rfl w4.heap.size 5 i0 (.int .u8 0) 1 Try.underlying55 hi hz0 hz1 .i64 .i64 _ _ (n0 + n1) rfl rfl (by omega) (by omega) (by rw [hz2]; omega) (by unfold maxLen; omega) (Nat.le_refl _) ?_; intro w5 hown5 hg5))
  have F := Filled.made hown5
  have b5 : Below w4.heap.size w4 w5 := (Below.refl _ _).grown hg5 (Nat.le_refl _) (by simp)
  have Q0 : Hid (RowB w5 w.heap.size zs) := R0.out.belowB (by omega) b5
  have Q1 : Hid (RowB w5 w1.heap.size ts) := R1.out.belowB (by omega) b5
  have bw5 : Below w.heap.size w w5 := bw.trans (b5.mono (by omega))
  clear hown5 hg5 R0 R1 bw
  go_loopw [7] (fun i wr => ∃ (k : Nat) (ys : List Int), k ≤ n0 ∧ i = .int .i64 k ∧ Filled wr w4.heap.size (n0 + n1) ys ∧ Hid (RowB wr w.heap.size zs) ∧ Hid (RowB wr w1.heap.size ts) ∧ Below w.heap.size w wr ∧ Hid (∀ j, j < k → ys.getD j 0 = zs.getD j 0)) (fun i _ => n0 - (intOf i).toNat)
  case atStart => exact ⟨0, _, Nat.zero_le _, rfl, F, Q0, Q1, bw5, fun j hj => absurd hj (by omega)⟩
  case round =>
    clear F Q0 Q1 bw5 b5
    obtain ⟨k, ys, hk, rfl, F, Q0, Q1, bel, H⟩ := hrel
    by_cases hlt : k < n0
    · have c1 := Q0.out.at k (by have := L0.out; omega)
      have c2 := F.cell k (by omega)
      have f2 := F.frozen k
      go_wp2
      have R := F.put k (zs[k]?.getD 0)
      have hl := F.1
      have H2 : Hid (∀ j, j < k + 1 → (ys.set k (zs[k]?.getD 0)).getD j 0 = zs.getD j 0) := by
        intro j hj
        by_cases e : k = j
        · rw [← e, getD_set_same (by omega), List.getD_eq_getElem?_getD]
        · rw [getD_set_other e]; exact H.out j (by omega)
      have bS : Below w4.heap.size wr (wr.setCell ⟨w4.heap.size, k, none⟩ (.int .u8 (zs[k]?.getD 0))) := (Below.refl _ _).setCell (p := ⟨w4.heap.size, k, none⟩) (Nat.le_refl _) _
      go_roundw
      case rel => exact ⟨k + 1, _, by omega, by go_num, R, Q0.out.belowB (by omega) bS, Q1.out.belowB (by omega) bS, bel.trans (bS.mono (by omega)), H2⟩
      case measure => simp [intOf]; omega
    · have H' : Hid (∀ j, j < n0 → ys.getD j 0 = zs.getD j 0) := fun j hj => H.out j (by omega)
      clear H
      go_wp2_with fail
      go_loopw [8] (fun i wr => ∃ (k : Nat) (ys : List Int), k ≤ n1 ∧ i = .int .i64 k ∧ Filled wr w4.heap.size (n0 + n1) ys ∧ Hid (RowB wr w1.heap.size ts) ∧ Below w.heap.size w wr ∧ Hid (∀ j, j < n0 → ys.getD j 0 = zs.getD j 0) ∧ Hid (∀ j, j < k → ys.getD (n0 + j) 0 = ts.getD j 0)) (fun i _ => n1 - (intOf i).toNat)
      case atStart => exact ⟨0, _, Nat.zero_le _, rfl, F, Q1, bel, H', fun j hj => absurd hj (by omega)⟩
      case round =>
        clear F Q0 Q1 bel H'
        obtain ⟨m, us, hm, rfl, F, Q1, bel, H, K⟩ := hrel
        by_cases hlt : m < n1
        · have c1 := Q1.out.at m (by have := L1.out; omega)
          have c2 := F.cell (n0 + m) (by omega)
          have f2 := F.frozen (n0 + m)
          go_wp2
          have R := F.put (n0 + m) (ts[m]?.getD 0)
          have hl := F.1
          have H2 : Hid (∀ j, j < n0 → (us.set (n0 + m) (ts[m]?.getD 0)).getD j 0 = zs.getD j 0) := by
            intro j hj
            rw [getD_set_other (by omega)]; exact H.out j hj
          have K2 : Hid (∀ j, j < m + 1 → (us.set (n0 + m) (ts[m]?.getD 0)).getD (n0 + j) 0 = ts.getD j 0) := by
            intro j hj
            by_cases e : m = j
            · rw [← e, getD_set_same (by omega), List.getD_eq_getElem?_getD]
            · rw [getD_set_other (by omega)]; exact K.out j (by omega)
          have bS : Below w4.heap.size wr (wr.setCell ⟨w4.heap.size, n0 + m, none⟩ (.int .u8 (ts[m]?.getD 0))) := (Below.refl _ _).setCell (p := ⟨w4.heap.size, n0 + m, none⟩) (Nat.le_refl _) _
          go_roundw
          case rel => exact ⟨m + 1, _, by omega, by go_num, R, Q1.out.belowB (by omega) bS, bel.trans (bS.mono (by omega)), H2, K2⟩
          case measure => simp [intOf]; omega
        · have J : Hid (us = zs ++ ts) := joined_eq (by rw [F.1, L0.out, L1.out]) (fun j hj => H.out j (by have := L0.out; omega)) (fun j hj => by rw [L0.out]; exact K.out j (by have := L1.out; omega))
          have RJ : Hid (RowB wr w4.heap.size (zs ++ ts)) := (J.out ▸ F).row (fun z hz => (List.mem_append.1 hz).elim (H0.out.2.1 z) (H1.out.2.1 z))
          have LJ := F.lt
          clear F H K J
          go_wp2_with fail
          refine (rec30 w4.heap.size (n0 + n1) (n0 + n1) (zs ++ ts) _ LJ RJ.out (by rw [List.length_append, L0.out, L1.out]) (Nat.le_refl _) (by omega)).mono ?_
          rintro e w6 ⟨rfl, b6⟩
          have hge2 := hge.out
          have P1 : Hid (RowB w6 w1.heap.size ts) := Q1.out.belowB (by omega) b6
          have bw6 : Below w.heap.size w w6 := bel.trans (b6.mono (by have := bel.size; omega))
          clear Q1 RJ b6 bel hge
          go_wp2_with fail
          go_loop [10, 11] (fun b i => ∃ (k : Nat), k ≤ n1 ∧ i = .int .i64 k ∧ b = .bool (brk ts k)) (fun _ i => n1 - (intOf i).toNat)
          case atStart => exact ⟨0, Nat.zero_le _, rfl, by rw [brk_zero]⟩
          case round =>
            obtain ⟨q, hq, rfl, rfl⟩ := hrel
            by_cases hlt : q < n1
            · have c1 := P1.out.at q (by have := L1.out; omega)
              have hl : Hid (q < ts.length) := by show q < ts.length; have := L1.out; omega
              go_wp2
              · have e := brk_yes hl.out (at_yes hl.out (by assumption))
                go_round
                case rel => exact ⟨q + 1, by omega, by go_num, by rw [e]⟩
                case measure => simp [intOf]; omega
              · have e := brk_no hl.out (at_no hl.out (by assumption))
                go_round
                case rel => exact ⟨q + 1, by omega, by go_num, by rw [e]⟩
                case measure => simp [intOf]; omega
            · cases hbr : brk ts q with
              | true =>
                go_wp2
                go_ret
                exact ⟨rfl, bw6⟩
              | false =>
                have heq := same_end (xs := zs) (by have := L1.out; omega) hbr
                have heq' : (((Rec.rEnd (zs ++ ts) : Nat) : Int) != ((Rec.rEnd zs : Nat) : Int)) = false := by rw [heq]; simp
                clear heq
                go_wp2
                go_ret
                exact ⟨rfl, bw6⟩

/-! ### no text -/
set_option maxHeartbeats 4000000 in
set_option maxRecDepth 100000 in
theorem end2_nr (x1 : Addr) (n1 cap1 : Nat) (ts : List Int) (w : World) (h1 : Came w x1 n1 ts) (hc1 : n1 ≤ cap1) (s1 : n1 ≤ 524288) :
    Calls Try.prog 7 #[.slice none 0 0, .slice (some x1) n1 cap1] w fun e w' => e = .returned (.bool true) ∧ Below w.heap.size w w' := by
  obtain ⟨i0, hi, hz0, hz1, hz2⟩ := info_parts info5
  have H1 : Hid (Came w x1 n1 ts) := h1
  have L1 : Hid (ts.length = n1) := h1.1
  clear h1
  go_enter Try.func7, Try.ntmps7
  go_wp2_with (go_at_call 32; refine (zz32 _ _ _ _ _ _ _ (by omega)).mono ?_; rintro e w' ⟨rfl, rfl⟩)
  refine (clone29_nil _).mono ?_
  rintro e w1 ⟨rfl, rfl⟩
  go_wp2_with fail
  refine (clone29_any x1 n1 cap1 ts _ H1.out hc1 (by omega)).mono ?_
  rintro e w2 ⟨rfl, F1, b2⟩
  have A2 : w.heap.size < w2.heap.size := F1.lt
  have R1 : Hid (RowB w2 w.heap.size ts) := F1.row H1.out.2.1
  clear F1
  go_wp2_with fail
  refine (rec30_nil _).mono ?_
  rintro e w3 ⟨rfl, b3⟩
  have R1' : Hid (RowB w3 w.heap.size ts) := R1.out.below (by omega) b3
  have A3 := b3.size
  clear R1
  go_wp2_with fail
  refine (mod31_nil _).mono ?_
  rintro e w4 ⟨rfl, rfl⟩
  go_wp2_with fail
  refine (rec30_nil _).mono ?_
  rintro e w4 ⟨rfl, b4⟩
  have R1 : Hid (RowB w4 w.heap.size ts) := R1'.out.below (by omega) b4
  have A4 := b4.size
  have bw : Below w.heap.size w w4 := (b2.trans (b3.mono (by omega))).trans (b4.mono (by omega))
  clear R1' b2 b3 b4
  go_wp2_with (at_make; go_must (refine wpList_make_full _ rfl _ _ 55 rfl w4.heap.size 5 i0 (.int .u8 0) 1 Try.underlying55 hi hz0 hz1 .i64 .i64 _ _ n1 rfl rfl (by omega) (by omega) (by rw [hz2]; omega) (by unfold maxLen; omega) (Nat.le_refl _) ?_; intro w5 hown5 hg5))
  have F := Filled.made hown5
  have b5 : Below w4.heap.size w4 w5 := (Below.refl _ _).grown hg5 (Nat.le_refl _) (by simp)
  have Q1 : Hid (RowB w5 w.heap.size ts) := R1.out.belowB (by omega) b5
  have bw5 : Below w.heap.size w w5 := bw.trans (b5.mono (by omega))
  clear hown5 hg5 R1 bw
  refine wp_loop_rounds 1 ?_
  rw [rounds_succ]
  go_wp2_with fail
  go_loopw [8] (fun i wr => ∃ (k : Nat) (ys : List Int), k ≤ n1 ∧ i = .int .i64 k ∧ Filled wr w4.heap.size n1 ys ∧ Hid (RowB wr w.heap.size ts) ∧ Below w.heap.size w wr ∧ Hid (∀ j, j < k → ys.getD j 0 = ts.getD j 0)) (fun i _ => n1 - (intOf i).toNat)
  case atStart => exact ⟨0, _, Nat.zero_le _, rfl, F, Q1, bw5, fun j hj => absurd hj (by omega)⟩
  case round =>
    clear F Q1 bw5 b5
    obtain ⟨m, us, hm, rfl, F, Q1, bel, K⟩ := hrel
    by_cases hlt : m < n1
    · have c1 := Q1.out.at m (by have := L1.out; omega)
      have c2 := F.cell m (by omega)
      have f2 := F.frozen m
      go_wp2
      have R := F.put m (ts[m]?.getD 0)
      have hl := F.1
      have K2 : Hid (∀ j, j < m + 1 → (us.set m (ts[m]?.getD 0)).getD j 0 = ts.getD j 0) := by
        intro j hj
        by_cases e : m = j
        · rw [← e, getD_set_same (by omega), List.getD_eq_getElem?_getD]
        · rw [getD_set_other (by omega)]; exact K.out j (by omega)
      have bS : Below w4.heap.size wr (wr.setCell ⟨w4.heap.size, m, none⟩ (.int .u8 (ts[m]?.getD 0))) := (Below.refl _ _).setCell (p := ⟨w4.heap.size, m, none⟩) (Nat.le_refl _) _
      go_roundw
      case rel => exact ⟨m + 1, _, by omega, by go_num, R, Q1.out.belowB (by omega) bS, bel.trans (bS.mono (by omega)), K2⟩
      case measure => simp [intOf]; omega
    · have J : Hid (us = ts) := eq_of_getD (by rw [F.1, L1.out]) (fun j hj => K.out j (by have := L1.out; omega))
      have RJ : Hid (RowB wr w4.heap.size ts) := (J.out ▸ F).row H1.out.2.1
      have LJ := F.lt
      clear F K J
      go_wp2_with fail
      refine (rec30 w4.heap.size n1 n1 ts _ LJ RJ.out L1.out (Nat.le_refl _) (by omega)).mono ?_
      rintro e w6 ⟨rfl, b6⟩
      have P1 : Hid (RowB w6 w.heap.size ts) := Q1.out.belowB (by omega) b6
      have bw6 : Below w.heap.size w w6 := bel.trans (b6.mono (by have := bel.size; omega))
      clear Q1 RJ b6 bel
      go_wp2_with fail
      go_loop [10, 11] (fun b i => ∃ (k : Nat), k ≤ n1 ∧ i = .int .i64 k ∧ b = .bool (brk ts k)) (fun _ i => n1 - (intOf i).toNat)
      case atStart => exact ⟨0, Nat.zero_le _, rfl, by rw [brk_zero]⟩
      case round =>
        obtain ⟨q, hq, rfl, rfl⟩ := hrel
        by_cases hlt : q < n1
        · have c1 := P1.out.at q (by have := L1.out; omega)
          have hl : Hid (q < ts.length) := by show q < ts.length; have := L1.out; omega
          go_wp2
          · have e := brk_yes hl.out (at_yes hl.out (by assumption))
            go_round
            case rel => exact ⟨q + 1, by omega, by go_num, by rw [e]⟩
            case measure => simp [intOf]; omega
          · have e := brk_no hl.out (at_no hl.out (by assumption))
            go_round
            case rel => exact ⟨q + 1, by omega, by go_num, by rw [e]⟩
            case measure => simp [intOf]; omega
        · cases hbr : brk ts q with
          | true =>
            go_wp2
            go_ret
            exact ⟨rfl, bw6⟩
          | false =>
            have heq := same_end (xs := []) (by have := L1.out; omega) hbr
            have heq' : (((Rec.rEnd ts : Nat) : Int) != 0) = false := by
              have e : Rec.rEnd ts = 0 := heq
              rw [e]; rfl
            clear heq
            go_wp2
            go_ret
            exact ⟨rfl, bw6⟩

/-! ### no tail -/
set_option maxHeartbeats 4000000 in
set_option maxRecDepth 100000 in
theorem end2_rn (x0 : Addr) (n0 cap0 : Nat) (zs : List Int) (w : World) (h0 : Came w x0 n0 zs) (hc0 : n0 ≤ cap0) (s0 : n0 ≤ 524288) :
    Calls Try.prog 7 #[.slice (some x0) n0 cap0, .slice none 0 0] w fun e w' => e = .returned (.bool true) ∧ Below w.heap.size w w' := by
  obtain ⟨i0, hi, hz0, hz1, hz2⟩ := info_parts info5
  have H0 : Hid (Came w x0 n0 zs) := h0
  have L0 : Hid (zs.length = n0) := h0.1
  have hr : Rec.rEnd zs ≤ n0 := by have := Rec.rE_le zs zs.length; rw [h0.1] at this; unfold Rec.rEnd; rw [h0.1]; exact this
  have hcutE : Hid (Rec.rEnd (zs.take (Rec.rEnd zs)) = Rec.rEnd zs) := Rec.rEnd_take zs
  clear h0
  go_enter Try.func7, Try.ntmps7
  go_wp2_with (go_at_call 32; refine (zz32 _ _ _ _ _ _ _ (by omega)).mono ?_; rintro e w' ⟨rfl, rfl⟩)
  refine (clone29_any x0 n0 cap0 zs _ H0.out hc0 (by omega)).mono ?_
  rintro e w2 ⟨rfl, F0, b2⟩
  have A2 : w.heap.size < w2.heap.size := F0.lt
  have R0 : Hid (RowB w2 w.heap.size zs) := F0.row H0.out.2.1
  clear F0
  go_wp2_with fail
  refine (clone29_nil _).mono ?_
  rintro e w1 ⟨rfl, rfl⟩
  go_wp2_with fail
  refine (rec30 w.heap.size n0 n0 zs _ (by omega) R0.out L0.out (Nat.le_refl _) (by omega)).mono ?_
  rintro e w3 ⟨rfl, b3⟩
  have R0' : Hid (RowB w3 w.heap.size zs) := R0.out.below (by omega) b3
  have A3 := b3.size
  clear R0
  go_wp2_with fail
  refine (mod31 w.heap.size n0 n0 zs _ R0'.out L0.out (Nat.le_refl _) (by omega)).mono ?_
  rintro e w4 ⟨rfl, rfl⟩
  go_wp2_with fail
  refine (rec30 w.heap.size (Rec.rEnd zs) n0 (zs.take (Rec.rEnd zs)) _ (by omega) (R0'.out.cut _) (by rw [List.length_take]; have := L0.out; omega) (by omega) (by omega)).mono ?_
  rintro e w4 ⟨rfl, b4⟩
  rw [hcutE.out]
  have R0 : Hid (RowB w4 w.heap.size zs) := R0'.out.below (by omega) b4
  have A4 := b4.size
  have bw : Below w.heap.size w w4 := (b2.trans (b3.mono (by omega))).trans (b4.mono (by omega))
  clear R0' b2 b3 b4
  go_wp2_with (at_make; go_must (refine wpList_make_full _ rfl _ _ 55 rfl w4.heap.size 5 i0 (.int .u8 0) 1 Try.underlying55 hi hz0 hz1 .i64 .i64 _ _ n0 rfl rfl (by omega) (by omega) (by rw [hz2]; omega) (by unfold maxLen; omega) (Nat.le_refl _) ?_; intro w5 hown5 hg5))
  have F := Filled.made hown5
  have b5 : Below w4.heap.size w4 w5 := (Below.refl _ _).grown hg5 (Nat.le_refl _) (by simp)
  have Q0 : Hid (RowB w5 w.heap.size zs) := R0.out.belowB (by omega) b5
  have bw5 : Below w.heap.size w w5 := bw.trans (b5.mono (by omega))
  clear hown5 hg5 R0 bw
  go_loopw [7] (fun i wr => ∃ (k : Nat) (ys : List Int), k ≤ n0 ∧ i = .int .i64 k ∧ Filled wr w4.heap.size n0 ys ∧ Hid (RowB wr w.heap.size zs) ∧ Below w.heap.size w wr ∧ Hid (∀ j, j < k → ys.getD j 0 = zs.getD j 0)) (fun i _ => n0 - (intOf i).toNat)
  case atStart => exact ⟨0, _, Nat.zero_le _, rfl, F, Q0, bw5, fun j hj => absurd hj (by omega)⟩
  case round =>
    clear F Q0 bw5 b5
    obtain ⟨k, ys, hk, rfl, F, Q0, bel, H⟩ := hrel
    by_cases hlt : k < n0
    · have c1 := Q0.out.at k (by have := L0.out; omega)
      have c2 := F.cell k (by omega)
      have f2 := F.frozen k
      go_wp2
      have R := F.put k (zs[k]?.getD 0)
      have hl := F.1
      have H2 : Hid (∀ j, j < k + 1 → (ys.set k (zs[k]?.getD 0)).getD j 0 = zs.getD j 0) := by
        intro j hj
        by_cases e : k = j
        · rw [← e, getD_set_same (by omega), List.getD_eq_getElem?_getD]
        · rw [getD_set_other e]; exact H.out j (by omega)
      have bS : Below w4.heap.size wr (wr.setCell ⟨w4.heap.size, k, none⟩ (.int .u8 (zs[k]?.getD 0))) := (Below.refl _ _).setCell (p := ⟨w4.heap.size, k, none⟩) (Nat.le_refl _) _
      go_roundw
      case rel => exact ⟨k + 1, _, by omega, by go_num, R, Q0.out.belowB (by omega) bS, bel.trans (bS.mono (by omega)), H2⟩
      case measure => simp [intOf]; omega
    · have J : Hid (ys = zs) := eq_of_getD (by rw [F.1, L0.out]) (fun j hj => H.out j (by have := L0.out; omega))
      have RJ : Hid (RowB wr w4.heap.size zs) := (J.out ▸ F).row H0.out.2.1
      have LJ := F.lt
      clear F H J
      go_wp2_with fail
      refine wp_loop_rounds 1 ?_
      rw [rounds_succ]
      go_wp2_with fail
      refine (rec30 w4.heap.size n0 n0 zs _ LJ RJ.out L0.out (Nat.le_refl _) (by omega)).mono ?_
      rintro e w6 ⟨rfl, b6⟩
      have bw6 : Below w.heap.size w w6 := bel.trans (b6.mono (by have := bel.size; omega))
      clear Q0 RJ b6 bel
      go_wp2_with fail
      refine wp_loop_rounds 1 ?_
      rw [rounds_succ]
      go_wp2
      go_ret
      exact ⟨rfl, bw6⟩

set_option maxHeartbeats 4000000 in
set_option maxRecDepth 100000 in
theorem end2_nn (w : World) :
    Calls Try.prog 7 #[.slice none 0 0, .slice none 0 0] w fun e w' => e = .returned (.bool true) ∧ Below w.heap.size w w' := by
  obtain ⟨i0, hi, hz0, hz1, hz2⟩ := info_parts info5
  go_enter Try.func7, Try.ntmps7
  go_wp2_with (go_at_call 32; refine (zz32 _ _ _ _ _ _ _ (by omega)).mono ?_; rintro e w' ⟨rfl, rfl⟩)
  refine (clone29_nil _).mono ?_
  rintro e w1 ⟨rfl, rfl⟩
  go_wp2_with fail
  refine (clone29_nil _).mono ?_
  rintro e w1 ⟨rfl, rfl⟩
  go_wp2_with fail
  refine (rec30_nil _).mono ?_
  rintro e w3 ⟨rfl, b3⟩
  go_wp2_with fail
  refine (mod31_nil _).mono ?_
  rintro e w4 ⟨rfl, rfl⟩
  go_wp2_with fail
  refine (rec30_nil _).mono ?_
  rintro e w4 ⟨rfl, b4⟩
  have A3 := b3.size
  have A4 := b4.size
  have bw : Below w.heap.size w w4 := b3.trans (b4.mono (by omega))
  clear b3 b4
  go_wp2_with (at_make; go_must (refine wpList_make_full _ rfl _ _ 55 rfl w4.heap.size 5 i0 (.int .u8 0) 1 Try.underlying55 hi hz0 hz1 .i64 .i64 _ _ 0 rfl rfl (by omega) (by omega) (by rw [hz2]; omega) (by unfold maxLen; omega) (Nat.le_refl _) ?_; intro w5 hown5 hg5))
  have F := Filled.made hown5
  have b5 : Below w4.heap.size w4 w5 := (Below.refl _ _).grown hg5 (Nat.le_refl _) (by simp)
  have bw5 : Below w.heap.size w w5 := bw.trans (b5.mono (by omega))
  have RJ : Hid (RowB w5 w4.heap.size []) := F.row (by simp)
  have LJ := F.lt
  clear hown5 hg5 bw b5 F
  refine wp_loop_rounds 1 ?_
  rw [rounds_succ]
  go_wp2_with fail
  refine wp_loop_rounds 1 ?_
  rw [rounds_succ]
  go_wp2_with fail
  refine (rec30 w4.heap.size 0 0 [] _ LJ RJ.out rfl (Nat.le_refl _) (by omega)).mono ?_
  rintro e w6 ⟨rfl, b6⟩
  have bw6 : Below w.heap.size w w6 := bw5.trans (b6.mono (by have := bw5.size; omega))
  have e0 : Rec.rEnd [] = 0 := rfl
  rw [e0]
  clear e0 RJ b6 bw5
  go_wp2_with fail
  refine wp_loop_rounds 1 ?_
  rw [rounds_succ]
  go_wp2
  go_ret
  exact ⟨rfl, bw6⟩

/-! ### too long -/
set_option maxHeartbeats 1000000 in
theorem end2_long (a b : Option Addr) (n cap m cap' : Nat) (w : World) (hn : n ≤ 9223372036854775807) (hm : m ≤ 9223372036854775807) (hT : ¬ (n ≤ 524288 ∧ m ≤ 524288)) :
    Calls Try.prog 7 #[.slice a n cap, .slice b m cap'] w fun e w' => e = .returned (.bool true) ∧ Below w.heap.size w w' := by
  go_enter Try.func7, Try.ntmps7
  go_wp2
  all_goals go_ret
  all_goals exact ⟨rfl, Below.refl _ _⟩
end Go.Proofs.Qxb6003232a
