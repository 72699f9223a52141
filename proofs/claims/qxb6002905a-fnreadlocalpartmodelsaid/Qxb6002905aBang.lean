/-
  THE WALK OF FnReadLocalPartBangPath.
-/
import Derived.Test.Qxb6002905aBangLaw
import Derived.Test.Qxb6002905aRead
import Derived.Test.Qxb6002905aModl
import Derived.Deep.RegionWith
import Derived.Deep.QuietTactic
import Derived.BigQuiet
namespace Go.Proofs.Qxb6002905a
open Go.RowKit
set_option linter.unusedVariables false

theorem RowS.below {w w' : World} {b off : Nat} {ss : List ByteArray} (h : RowS w b off ss) (hb : b < w.heap.size) (hbel : Below w.heap.size w w') : RowS w' b off ss :=
  fun i hi => (hbel.cell (p := ⟨b, off + i, none⟩) hb).trans (h i hi)
theorem has_call2 (s : ByteArray) (c : UInt8) (hs : s.size ≤ 4194304) (w : World) :
    Calls Try.prog 11 #[.string s, .int .u8 c.toNat] w fun e w' => e = .returned (.bool (has s.data.toList c)) ∧ w = w' := by
  refine (hasByte_any s c (by unfold maxLen; omega) w).mono ?_
  rintro e w' ⟨rfl, rfl⟩
  exact ⟨rfl, rfl⟩
/-- are the first k names plain? -/
def AllUU (ss : List ByteArray) (k : Nat) : Prop := ∀ n ∈ ss.take k, uuOK n.data.toList = true
theorem AllUU.step {ss : List ByteArray} {k : Nat} (h : AllUU ss k) (hk : k < ss.length) (e : uuOK (ss.getD k ByteArray.empty).data.toList = true) : AllUU ss (k + 1) := by
  intro n hn
  rw [List.take_succ_eq_append_getElem hk, List.mem_append, List.mem_singleton] at hn
  rcases hn with hn | hn
  · exact h n hn
  · rw [List.getD_eq_getElem?_getD, List.getElem?_eq_getElem hk] at e
    rw [hn]; exact e
theorem bpath_step {ss : List ByteArray} {k : Nat} (hk : k < ss.length) : bpath (ss.take (k + 1)) = (bpath (ss.take k) ++ (ss.getD k ByteArray.empty).data.toList) ++ [33] := by
  have e : ss.getD k ByteArray.empty = ss[k] := by rw [List.getD_eq_getElem?_getD, List.getElem?_eq_getElem hk]; rfl
  unfold bpath
  rw [List.take_succ_eq_append_getElem hk, List.flatMap_append, e, List.append_assoc]
  congr 1
  simp only [List.flatMap_cons, List.flatMap_nil, List.append_nil]
theorem bpath_len (ss : List ByteArray) : ∀ k, k ≤ ss.length → (bpath (ss.take k)).length = sumS ss k + k
  | 0, _ => by simp [bpath, sumS]
  | k + 1, h => by
    rw [bpath_step (by omega), List.length_append, List.length_append, bpath_len ss k (by omega), sumS_succ ss k (by omega), size_list, List.length_singleton]
    omega
theorem bpath_mem {ss : List ByteArray} (h : ∀ m ∈ ss, uuOK m.data.toList = true) {c : UInt8} (hc : c ∈ bpath ss) : c ≠ 37 := by
  unfold bpath at hc
  rw [List.mem_flatMap] at hc
  obtain ⟨m, hm, hc⟩ := hc
  rw [List.mem_append, List.mem_singleton] at hc
  rcases hc with hc | hc
  · exact (uuC_hop ((uu_mem (h m hm)).2 c hc)).2.2.1
  · rw [hc]; decide
/-- the whole path -/
def pathB (ss : List ByteArray) (u : ByteArray) : ByteArray := ⟨(bpath ss ++ u.data.toList).toArray⟩
theorem pathB_data (ss : List ByteArray) (u : ByteArray) : (pathB ss u).data.toList = bpath ss ++ u.data.toList := by unfold pathB; simp
theorem pathB_size (ss : List ByteArray) (u : ByteArray) : (pathB ss u).size = sumS ss ss.length + ss.length + u.size := by
  rw [← size_list, pathB_data, List.length_append, size_list]
  have := bpath_len ss ss.length (Nat.le_refl _)
  rw [List.take_length] at this
  rw [this]
theorem path_law (ss : List ByteArray) (u : ByteArray) (pf : Bool) (h : ∀ m ∈ ss, uuOK m.data.toList = true) (hu0 : 0 < u.size) (h33 : has u.data.toList 33 = false) (h37 : has u.data.toList 37 = false) :
    hopsB (pathB ss u) pf = ss.map (fun n => (n, uucp)) ∧ leftB (pathB ss u) pf = u := by
  unfold hopsB leftB
  refine rd_bang (pathB ss u) u pf hu0 (by unfold has at h33; rw [decide_eq_false_iff_not] at h33; exact h33) ?_ ss 0 _ h (Nat.zero_le _) (by rw [List.drop_zero, pathB_data]) (by omega)
  intro i hi
  have hm : (37 : UInt8) ∈ (pathB ss u).data.toList := List.mem_of_getElem? hi
  rw [pathB_data, List.mem_append] at hm
  rcases hm with hm | hm
  · exact bpath_mem h hm rfl
  · unfold has at h37
    rw [decide_eq_false_iff_not] at h37
    exact h37 hm
theorem own_str {w wr w1 : World} {B : Nat} {v v' : Value} {out : List UInt8} {t : ByteArray} (hown : OwnB wr B v out) (hbel : Below B w wr) (hB : B ≤ w.heap.size)
    (h : w1.ownsRow B 5 1 v' (out.length + t.size) (Lib.byteCells out ++ Lib.strCells t)) (hg : wr.grownBy w1 v.ownBlock) : OwnB w1 B v' (out ++ t.data.toList) ∧ Below B w w1 := by
  have hsz := hbel.size
  refine ⟨?_, ?_⟩
  · unfold OwnB
    have e : Lib.byteCells (out ++ t.data.toList) = Lib.byteCells out ++ Lib.strCells t := by simp [Lib.byteCells, Lib.strCells]
    rw [List.length_append, size_list, e]
    exact h
  · refine hbel.grown hg (by omega) ?_
    intro k hk
    exact ownBlock_ge hown k hk

theorem uucp_is : (uucp.toList == [117, 117, 99, 112]) = true := by decide +kernel

set_option maxHeartbeats 8000000 in
theorem bang6_row (b off n cap : Nat) (ss : List ByteArray) (u : ByteArray) (pf : Bool) (w : World) (hb : b < w.heap.size) (hr : RowS w b off ss) (hn : ss.length = n) (hn0 : 0 < n) (hm : n ≤ 9223372036854775807) (hu : u.size ≤ 9223372036854775807) (hss : ∀ t ∈ ss, t.size ≤ 9223372036854775807) :
    Calls Try.prog 6 #[.slice (some ⟨b, off, none⟩) n cap, .string u, .bool pf] w fun e w' => e = .returned (.bool true) ∧ Below w.heap.size w w' := by
  obtain ⟨i0, hi, hz0, hz1, hz2⟩ := info_parts info5
  have HR : Hid (RowS w b off ss) := hr
  have HN : Hid (ss.length = n) := hn
  have HS : Hid (∀ t ∈ ss, t.size ≤ 9223372036854775807) := hss
  clear hr hn hss
  go_enter Try.func6, Try.ntmps6
  go_wp2_with fail
  refine (bytes17_row b off n cap ss u pf _ HR.out HN.out hm hu HS.out).mono ?_
  rintro e w' ⟨⟨x, rfl, hx⟩, rfl⟩
  cases x with
  | false =>
    clear hx
    go_wp2
    go_ret
    exact ⟨rfl, Below.refl _ _⟩
  | true =>
    have hT := hx rfl
    clear hx
    by_cases hS : n ≤ 4096 ∧ u.size ≤ 65536
    · obtain ⟨t1, t2⟩ := hS
      go_wp2_with fail
      refine (sb14_row b off n cap ss _ HR.out HN.out (by omega)).mono ?_
      rintro e w' ⟨rfl, rfl⟩
      by_cases h16 : 16 * n + sumS ss n + u.size ≤ 1048576
      · go_wp2_with fail
        go_loop [7] (fun i => ∃ k : Nat, k ≤ n ∧ i = .int .i64 k ∧ Hid (AllUU ss k)) (fun i => n - (intOf i).toNat)
        case atStart => exact ⟨0, Nat.zero_le _, rfl, fun n hn => absurd hn (by simp)⟩
        case round =>
          obtain ⟨k, hk, rfl, HU⟩ := hrel
          by_cases hlt : k < n
          · have hl : k < ss.length := by have := HN.out; omega
            have c1 := HR.out k hl
            have hsz : (ss.getD k ByteArray.empty).size ≤ 4194304 := by have := sumS_one ss k hl; rw [HN.out] at this; omega
            have ST : Hid (uuOK (ss.getD k ByteArray.empty).data.toList = true → AllUU ss (k + 1)) := fun h => HU.out.step hl h
            generalize ss.getD k ByteArray.empty = t at c1 hsz ST
            clear hl
            cases hok : uuOK t.data.toList with
            | true =>
              have H2 := ST.out hok
              have OK : Hid (uuOK t.data.toList = true) := hok
              clear hok ST
              go_wp2_with (go_at_call 18; go_must (refine (uu18 t hsz _).mono ?_; rintro e w' ⟨rfl, rfl⟩; rw [OK.out]))
              go_round
              case rel => exact ⟨k + 1, by omega, by go_num, H2⟩
              case measure => simp [intOf]; omega
            | false =>
              have OK : Hid (uuOK t.data.toList = false) := hok
              clear hok ST
              go_wp2_with (go_at_call 18; go_must (refine (uu18 t hsz _).mono ?_; rintro e w' ⟨rfl, rfl⟩; rw [OK.out]))
              go_ret
              exact ⟨rfl, Below.refl _ _⟩
          · have HA : Hid (∀ m ∈ ss, uuOK m.data.toList = true) := by
              intro m hm'
              refine HU.out m ?_
              rw [List.take_of_length_le (by have := HN.out; omega)]
              exact hm'
            clear HU
            by_cases hu0 : 0 < u.size
            · have ue := ne_empty u hu0
              cases hb1 : has u.data.toList 33 with
              | true =>
                have E : Hid (has u.data.toList 33 = true) := hb1
                clear hb1
                go_wp2_with (go_at_call 11; go_must (refine (has_call2 u 33 (by omega) _).mono ?_; rintro e w' ⟨rfl, rfl⟩; rw [E.out]))
                go_ret
                exact ⟨rfl, Below.refl _ _⟩
              | false =>
                have E1 : Hid (has u.data.toList 33 = false) := hb1
                clear hb1
                go_wp2_with fail
                refine (has_call2 u 33 (by omega) _).mono ?_
                rintro e w' ⟨rfl, rfl⟩
                rw [E1.out]
                go_wp2_with fail
                refine (has_call2 u 37 (by omega) _).mono ?_
                rintro e w' ⟨rfl, rfl⟩
                cases hb2 : has u.data.toList 37 with
                | true =>
                  go_wp2
                  go_ret
                  exact ⟨rfl, Below.refl _ _⟩
                | false =>
                  obtain ⟨pl1, pl2⟩ := path_law ss u pf HA.out hu0 E1.out hb2
                  have PL1 : Hid (hopsB (pathB ss u) pf = ss.map (fun n => (n, uucp))) := pl1
                  have PL2 : Hid (leftB (pathB ss u) pf = u) := pl2
                  have PS : Hid ((pathB ss u).size = sumS ss n + n + u.size) := by have := pathB_size ss u; rw [HN.out] at this; exact this
                  clear pl1 pl2 hb2 E1 HA
                  go_wp2_with fail
                  refine (sb14_row b off n cap ss _ HR.out HN.out (by omega)).mono ?_
                  rintro e w' ⟨rfl, rfl⟩
                  go_wp2_with (at_make; go_must (refine wpList_make_own _ rfl _ _ 39 rfl w.heap.size 5 i0 (.int .u8 0) 1 Try.underlying39 hi hz0 hz1 .i64 .i64 _ (16 * n + sumS ss n + u.size) rfl rfl (by omega) (by rw [hz2]; omega) (by unfold maxLen; omega) (Nat.le_refl _) ?_; intro w1 hown1 hg1))
                  have hb1 : Below w.heap.size w w1 := (Below.refl _ _).grown hg1 (Nat.le_refl _) (by simp)
                  clear hg1
                  go_loopw [8, 9] (fun v i wr => ∃ (k : Nat), k ≤ n ∧ i = .int .i64 k ∧ Hid (OwnB wr w.heap.size v (bpath (ss.take k))) ∧ Below w.heap.size w wr) (fun _ i _ => n - (intOf i).toNat)
                  case atStart => exact ⟨0, Nat.zero_le _, rfl, hown1, hb1⟩
                  case round =>
                    clear hown1 hb1
                    obtain ⟨k, hk, rfl, HO, hbel⟩ := hrel
                    have hsz := hbel.size
                    by_cases hlt : k < n
                    · have hl : k < ss.length := by have := HN.out; omega
                      have c1 : wr.cell? ⟨b, off + k, none⟩ = some (.string (ss.getD k ByteArray.empty)) := (HR.out.below hb hbel) k hl
                      have s1 := sumS_succ ss k hl
                      have s2 := sumS_mono ss (k + 1) ss.length (by omega) (Nat.le_refl _)
                      rw [HN.out] at s2
                      have bl := bpath_len ss k (by omega)
                      have ST : Hid (bpath (ss.take (k + 1)) = (bpath (ss.take k) ++ (ss.getD k ByteArray.empty).data.toList) ++ [33]) := bpath_step hl
                      generalize ss.getD k ByteArray.empty = t at c1 s1 ST
                      have tb : sumS ss k + t.size ≤ 1048576 := by omega
                      have lb : (bpath (ss.take k)).length + t.size + 1 ≤ 2097152 := by omega
                      clear s1 s2 hl bl
                      go_wp2_with (first
                        | (at_builtin; refine Lib.wpList_append_own_string _ rfl (.tmp 66) (.tmp 70) 39 9 rfl w.heap.size 5 i0 Try.underlying39 Try.underlying9 hi hz0 hz1 hz2 _ _ _ rfl HO.out t rfl (by unfold maxLen; omega) (by omega) (by omega) ?_; intro v1 w3 hown3 hgrow3 _; obtain ⟨S1, S2⟩ := own_str HO.out hbel (Nat.le_refl _) hown3 hgrow3; have hsz3 := S2.size; clear hown3 hgrow3)
                        | (at_builtin; refine wpList_append_own _ rfl (.tmp 72) (.tmp 73) 39 rfl w.heap.size 5 i0 (.int .u8 0) 1 1 Try.underlying39 hi hz0 hz1 hz2 rfl (by decide) _ _ _ rfl (World.ownsRow.alloc S1 _) ⟨w3.heap.size, 0, none⟩ 1 1 [_] rfl rfl (cell_one_new _ _ _) (one_cell _) (by unfold maxLen; rw [List.length_append, size_list]; omega) (by rw [List.length_append, size_list]; omega) (by simp; omega) ?_; intro v' w4 hown' hgrow _))
                      have P := own_push (c := 33) S1 S2 (Nat.le_refl _) hown' hgrow
                      rw [← ST.out] at P
                      go_roundw
                      case rel => exact ⟨k + 1, by omega, by go_num, P.1, P.2⟩
                      case measure => simp [intOf]; omega
                    · have EK : Hid (bpath (ss.take k) = bpath ss) := by show _ = _; rw [List.take_of_length_le (by have := HN.out; omega)]
                      have bl := bpath_len ss k (by have := HN.out; omega)
                      have lb : (bpath (ss.take k)).length + u.size ≤ 2097152 := by
                        have : k = n := by omega
                        rw [bl, this]; omega
                      clear bl
                      go_wp2_with (at_builtin; go_must (refine Lib.wpList_append_own_string _ rfl (.tmp 75) (.tmp 76) 39 9 rfl w.heap.size 5 i0 Try.underlying39 Try.underlying9 hi hz0 hz1 hz2 _ _ _ rfl HO.out u rfl (by unfold maxLen; omega) (by omega) (by omega) ?_; intro v1 w3 hown3 hgrow3 _; obtain ⟨S1, S2⟩ := own_str HO.out hbel (Nat.le_refl _) hown3 hgrow3; have hcv := conv_own S1; rw [EK.out] at hcv; clear hown3 hgrow3))
                      refine (read15 (pathB ss u) pf (.slice none 0 0) [] w.heap.size _ (by rw [PS.out]; omega) (by simp) (by have := S2.size; omega) (World.ownsRow_nil _ _ _ _)).mono ?_
                      rintro e w5 ⟨v, rfl, hv, hb5⟩
                      rw [PL2.out]
                      rw [PL1.out, List.nil_append] at hv
                      obtain ⟨g, cap5, rfl, hcell⟩ : ∃ g cap5, v = .slice (some ⟨g, 0, none⟩) n cap5 ∧ ∀ j, j < n → w5.cell? ⟨g, j * 2, none⟩ = some (.string (ss.getD j ByteArray.empty)) ∧ w5.cell? ⟨g, j * 2 + 1, none⟩ = some (.string uucp) := by
                        have hl5 : (ss.map (fun m => (m, uucp))).length = n := by rw [List.length_map]; exact HN.out
                        unfold OwnH at hv
                        rw [hl5] at hv
                        rcases hv.2 with ⟨_, h0⟩ | ⟨g, cap5, cur, hv2, _⟩
                        · omega
                        · subst hv2
                          refine ⟨g, cap5, rfl, fun j hj => ?_⟩
                          have hj2 : j < (ss.map (fun m => (m, uucp))).length := by omega
                          have gj := hopCells_get (ss.map (fun m => (m, uucp))) j hj2
                          have ej : (ss.map (fun m => (m, uucp)))[j] = (ss.getD j ByteArray.empty, uucp) := by
                            rw [List.getElem_map, List.getD_eq_getElem?_getD, List.getElem?_eq_getElem (by rw [HN.out]; exact hj)]
                            rfl
                          rw [ej] at gj
                          rw [Nat.mul_comm j 2]
                          exact ⟨(hv.cellAt (2 * j) (by omega)).trans gj.1, (hv.cellAt (2 * j + 1) (by omega)).trans gj.2⟩
                      have HC : Hid (∀ j, j < n → w5.cell? ⟨g, j * 2, none⟩ = some (.string (ss.getD j ByteArray.empty)) ∧ w5.cell? ⟨g, j * 2 + 1, none⟩ = some (.string uucp)) := hcell
                      clear hcell
                      have R5 : Hid (RowS w5 b off ss) := HR.out.below hb (S2.trans hb5)
                      have B5 : Below w.heap.size w w5 := S2.trans hb5
                      clear S1 S2 hcv hb5 HO hbel hv
                      go_wp2_with fail
                      go_loopw [12] (fun i wr => ∃ (k q : Nat), k ≤ n ∧ i = .int .i64 k ∧ wr = w5.drewN q) (fun i _ => n - (intOf i).toNat)
                      case atStart => exact ⟨0, 0, Nat.zero_le _, rfl, rfl⟩
                      case round =>
                        obtain ⟨j, q, hj, rfl, rfl⟩ := hrel
                        by_cases hlt2 : j < n
                        · have e0 := R5.out j (by have := HN.out; omega)
                          obtain ⟨e1, e2⟩ := HC.out j hlt2
                          generalize ss.getD j ByteArray.empty = t at e0 e1
                          have j1 : (0 : Int) ≤ (j : Int) := by omega
                          have j2 : (j : Int) < (n : Int) := by omega
                          go_wp2_with fail
                          go_quiet (fail)
                          go_wp2
                          · rename_i hh
                            rw [uucp_is] at hh
                            cases hh
                          go_roundw
                          case rel => exact ⟨j + 1, _, by omega, by go_num, rfl⟩
                          case measure => simp [intOf]; omega
                        · go_wp2
                          go_ret
                          exact ⟨rfl, below_drewN B5 _⟩
            · have ue := is_empty u hu0
              go_wp2
              go_ret
              exact ⟨rfl, Below.refl _ _⟩
      · have h16' : ¬ (16 * (n : Int) + (sumS ss n : Int) + (u.size : Int) ≤ 1048576) := by omega
        go_wp2
        go_ret
        exact ⟨rfl, Below.refl _ _⟩
    · go_wp2
      all_goals go_ret
      all_goals exact ⟨rfl, Below.refl _ _⟩
end Go.Proofs.Qxb6002905a
