/-
  THE WALK OF FnReadLocalPartModel.
-/
import Derived.Test.Qxb6002905aB13
import Derived.Test.Qxb6002905aMlp
namespace Go.Proofs.Qxb6002905a
open Go.RowKit
set_option linter.unusedVariables false

theorem own_len {w : World} {B : Nat} {v : Value} {hs : List (ByteArray × ByteArray)} (h : OwnH w B v hs) : hs.length ≤ 9223372036854775807 := by
  unfold OwnH at h
  rcases h.2 with ⟨_, hn⟩ | ⟨g, cap, cur, _, _, _, h1, h2, _⟩
  · omega
  · unfold maxLen at h2; omega
theorem both_pre {ss ts : List ByteArray} {n j : Nat} (h1 : ss.length = n) (h2 : ts.length = n) (hj : j < n) (H : List (ByteArray × ByteArray)) : (pairs ss ts ++ H).getD j (uucp, uucp) = (ss.getD j ByteArray.empty, ts.getD j ByteArray.empty) := by
  rw [List.getD_eq_getElem?_getD, List.getElem?_append_left (by rw [pairs_len h1 h2]; exact hj), pairs_get h1 h2 hj]
  rfl
theorem both_post {ss ts : List ByteArray} {n j : Nat} (h1 : ss.length = n) (h2 : ts.length = n) (H : List (ByteArray × ByteArray)) : (pairs ss ts ++ H).getD (n + j) (uucp, uucp) = H.getD j (uucp, uucp) := by
  rw [List.getD_eq_getElem?_getD, List.getElem?_append_right (by rw [pairs_len h1 h2]; omega), pairs_len h1 h2, List.getD_eq_getElem?_getD]
  congr 2
  omega

set_option maxRecDepth 100000 in
set_option maxHeartbeats 8000000 in
theorem law5 (s : ByteArray) (pf : Bool) (a c : Option Addr) (n m ca cc : Nat) (ss ts : List ByteArray) (w : World) (hs : s.size ≤ 9223372036854775807) (h1 : CameS w a n ss) (h2 : CameS w c m ts) :
    Calls Try.prog 5 #[.string s, .bool pf, .slice a n ca, .slice c m cc] w fun e w' => e = .returned (.bool true) ∧ Below w.heap.size w w' := by
  obtain ⟨i0, hi, hz0, hz1, hz2⟩ := info_parts info34
  have H1 : Hid (CameS w a n ss) := h1
  have H2 : Hid (CameS w c m ts) := h2
  have n1 := h1.2.1
  have m1 := h2.2.1
  clear h1 h2
  have kn := Lib.run_eql_slice_nil (P := Try.prog)
  go_enter Try.func5, Try.ntmps5
  go_wp2_with fail
  refine (bytes13 s pf a c n m ca cc ss ts _ hs H1.out H2.out).mono ?_
  rintro e w' ⟨⟨x, rfl, hx⟩, rfl⟩
  cases x with
  | false =>
    clear hx
    go_wp2
    go_ret
    exact ⟨rfl, Below.refl _ _⟩
  | true =>
    have hT := hx rfl
    clear hx
    by_cases hS : s.size ≤ 4096 ∧ n ≤ 4096 ∧ m ≤ 4096
    · obtain ⟨t1, t2, t3⟩ := hS
      go_wp2_with fail
      refine (sb14_any a n ca ss _ H1.out (by omega)).mono ?_
      rintro e w' ⟨rfl, rfl⟩
      go_wp2_with fail
      refine (sb14_any c m cc ts _ H2.out (by omega)).mono ?_
      rintro e w' ⟨rfl, rfl⟩
      by_cases h20 : s.size + (16 * n + sumS ss n) + (16 * m + sumS ts m) ≤ 1048576
      · by_cases hnm : n = m
        · subst hnm
          have LS : Hid (ss.length = n) := H1.out.1
          have LT : Hid (ts.length = n) := H2.out.1
          go_upto_if 52 with fail
          go_cut [9, 10] (fun v _ wx => Hid (OwnH wx w.heap.size v (pairs ss ts)) ∧ Below w.heap.size w wx)
          case first =>
            cases a with
            | none =>
              have n0 : n = 0 := by
                rcases Nat.eq_zero_or_pos n with h | h
                · exact h
                · obtain ⟨b, off, e, _⟩ := H1.out.2.2.2 h
                  exact absurd e (by simp)
              have PE : Hid (pairs ss ts = []) := List.eq_nil_of_length_eq_zero ((pairs_len LS.out LT.out).trans n0)
              clear n0
              go_wp2_with fail
              go_meet
              exact ⟨by rw [PE.out]; exact World.ownsRow_nil _ _ _ _, Below.refl _ _⟩
            | some x =>
              go_wp2_with (at_make; go_must (refine wpList_make_full _ rfl _ _ 31 rfl w.heap.size 34 i0 _ 2 Try.underlying31 hi hz0 hz1 .i64 .i64 _ _ n rfl rfl rfl rfl (by rw [hz2]; omega) (by unfold maxLen; omega) (Nat.le_refl _) ?_; intro w1 hown1 hg1))
              have F0 : Hid (Fill w1 w.heap.size n 0 ss ts) := ⟨_, hown1, fun j hj => absurd hj (by omega)⟩
              have hb1 : Below w.heap.size w w1 := (Below.refl _ _).grown hg1 (Nat.le_refl _) (by simp)
              clear hown1 hg1
              go_loopw [10] (fun i wr => ∃ (k : Nat), k ≤ n ∧ i = .int .i64 k ∧ Hid (Fill wr w.heap.size n k ss ts) ∧ Below w.heap.size w wr) (fun i _ => n - (intOf i).toNat)
              case atStart => exact ⟨0, Nat.zero_le _, rfl, F0, hb1⟩
              case round =>
                clear F0 hb1
                obtain ⟨k, hk, rfl, F, hbel⟩ := hrel
                by_cases hlt : k < n
                · obtain ⟨b, off, ex, _, hr⟩ := (H1.out.below hbel).2.2.2 (by omega)
                  obtain rfl := Option.some.inj ex
                  obtain ⟨b', off', rfl, _, hr'⟩ := (H2.out.below hbel).2.2.2 (by omega)
                  have e1 := hr k (by have := LS.out; omega)
                  have e2 := hr' k (by have := LT.out; omega)
                  have f0 := F.out.free (k * 2)
                  have f1 := F.out.free (k * 2 + 1)
                  obtain ⟨x0, d0⟩ := F.out.old (k * 2) (by omega)
                  obtain ⟨x1, d1⟩ := F.out.old (k * 2 + 1) (by omega)
                  have FP : Hid (Fill ((wr.setCell ⟨w.heap.size, k * 2, none⟩ (.string (ss.getD k ByteArray.empty))).setCell ⟨w.heap.size, k * 2 + 1, none⟩ (.string (ts.getD k ByteArray.empty))) w.heap.size n (k + 1) ss ts) := F.out.put LS.out LT.out hlt
                  generalize ss.getD k ByteArray.empty = y0 at e1 FP
                  generalize ts.getD k ByteArray.empty = y1 at e2 FP
                  have g1 : (0 : Int) ≤ (k : Int) := by omega
                  have g2 : (k : Int) < (n : Int) := by omega
                  clear hr hr' ex
                  go_wp2_with fail
                  go_region
                  all_goals (try go_wp2)
                  go_roundw
                  case rel => exact ⟨k + 1, by omega, by go_num, FP.out.below rfl, ((hbel.drew).setCell (p := ⟨w.heap.size, k * 2, none⟩) (Nat.le_refl _) _).setCell (p := ⟨w.heap.size, k * 2 + 1, none⟩) (Nat.le_refl _) _⟩
                  case measure => simp [intOf]; omega
                · have hk' : k = n := by omega
                  subst hk'
                  have O2 := F.out.full (B := w.heap.size) LS.out LT.out (Nat.le_refl _)
                  go_wp2_with fail
                  go_meet
                  exact ⟨O2, hbel⟩
          case rest =>
            obtain ⟨HO, hb1⟩ := hcut
            clear kn
            go_wp2_with fail
            refine (read15 s pf _ (pairs ss ts) w.heap.size _ (by omega) (by rw [pairs_len LS.out LT.out]; omega) (by have := hb1.size; omega) HO.out).mono ?_
            rintro e w2 ⟨v, rfl, hv, hb2⟩
            go_wp2_with fail
            refine (mlp16 s pf _ (by omega)).mono ?_
            rintro e w3 ⟨v2, rfl, hv2, hb3⟩
            have hb12 := hb1.trans hb2
            have hbw : Below w.heap.size w w3 := hb12.trans (hb3.mono (by have := hb12.size; omega))
            have len1 := own_len hv
            obtain ⟨a1, cap1, rfl, c1⟩ := came_hops (hv.below hb3)
            obtain ⟨a2, cap2, rfl, c2⟩ := came_hops hv2
            rw [List.length_append, pairs_len LS.out LT.out] at len1 ⊢
            have C1 : Hid (CameH w3 a1 (pairs ss ts ++ hopsB s pf)) := c1
            have C2 : Hid (CameH w3 a2 (hopsB s pf)) := c2
            have G1 : Hid (CameS w3 a n ss) := H1.out.below hbw
            have G2 : Hid (CameS w3 c n ts) := H2.out.below hbw
            obtain ⟨Hl, hHl⟩ : ∃ Hl, hopsB s pf = Hl := ⟨_, rfl⟩
            rw [hHl] at C1 C2 len1 ⊢
            obtain ⟨L, hL⟩ : ∃ L, Hl.length = L := ⟨_, rfl⟩
            rw [hL] at len1 ⊢
            have HL : Hid (Hl.length = L) := hL
            clear hv hv2 hb3 hb2 hb12 c1 c2 hHl hL HO hb1
            go_wp2_with fail
            go_loopw [15] (fun i wr => ∃ (k q : Nat), k ≤ n ∧ i = .int .i64 k ∧ wr = w3.drewN q) (fun i _ => n - (intOf i).toNat)
            case atStart => exact ⟨0, 0, Nat.zero_le _, rfl, rfl⟩
            case round =>
              obtain ⟨k, q, hk, rfl, rfl⟩ := hrel
              by_cases hlt : k < n
              · obtain ⟨b, off, rfl, _, hr⟩ := G1.out.2.2.2 (by omega)
                obtain ⟨b', off', rfl, _, hr'⟩ := G2.out.2.2.2 (by omega)
                have e1 := hr k (by have := LS.out; omega)
                have e2 := hr' k (by have := LT.out; omega)
                obtain ⟨g, rfl, _, d1, d2⟩ := C1.out k (by rw [List.length_append, pairs_len LS.out LT.out]; omega)
                rw [both_pre LS.out LT.out hlt] at d1 d2
                generalize ss.getD k ByteArray.empty = y0 at e1 d1
                generalize ts.getD k ByteArray.empty = y1 at e2 d2
                have g1 : (0 : Int) ≤ (k : Int) := by omega
                have g2 : (k : Int) < (n : Int) := by omega
                have g3 : (k : Int) < (n : Int) + (L : Int) := by omega
                clear hr hr'
                go_wp2_with fail
                go_quiet (fail)
                go_wp2
                go_roundw
                case rel => exact ⟨k + 1, _, by omega, by go_num, rfl⟩
                case measure => simp [intOf]; omega
              · go_wp2_with fail
                go_loopw [16] (fun i wr => ∃ (j : Nat), j ≤ L ∧ i = .int .i64 j ∧ Hid (Below w3.heap.size w3 wr)) (fun i _ => L - (intOf i).toNat)
                case atStart => exact ⟨0, Nat.zero_le _, rfl, below_drewN (Below.refl _ _) _⟩
                case round =>
                  obtain ⟨j, hj, rfl, HB⟩ := hrel
                  by_cases hlt2 : j < L
                  · obtain ⟨g, rfl, gl, d1, d2⟩ := (C1.out.below HB.out) (n + j) (by rw [List.length_append, pairs_len LS.out LT.out, HL.out]; omega)
                    rw [both_post LS.out LT.out] at d1 d2
                    obtain ⟨g', rfl, gl', d3, d4⟩ := (C2.out.below HB.out) j (by rw [HL.out]; omega)
                    generalize (Hl.getD j (uucp, uucp)).1 = y0 at d1 d3
                    generalize (Hl.getD j (uucp, uucp)).2 = y1 at d2 d4
                    have d5 : (wr.alloc (.cells #[.string y0, .string y1] 34)).cell? ⟨g', j * 2, none⟩ = some (.string y0) := by
                      rw [World.cell?_alloc_old _ _ _ (Nat.ne_of_lt gl')]; exact d3
                    have d6 : (wr.alloc (.cells #[.string y0, .string y1] 34)).cell? ⟨g', j * 2 + 1, none⟩ = some (.string y1) := by
                      rw [World.cell?_alloc_old _ _ _ (Nat.ne_of_lt gl')]; exact d4
                    have B2 : Below w3.heap.size w3 (wr.alloc (.cells #[.string y0, .string y1] 34)) := HB.out.alloc (by have := HB.out.size; omega) _
                    have g1 : (0 : Int) ≤ (j : Int) := by omega
                    have g2 : (j : Int) < (L : Int) := by omega
                    have g3 : (n : Int) + (j : Int) < (n : Int) + (L : Int) := by omega
                    have g4 : (0 : Int) ≤ (n : Int) + (j : Int) := by omega
                    go_wp2_with fail
                    go_quiet (fail)
                    go_wp2
                    go_roundw
                    case rel => exact ⟨j + 1, by omega, by go_num, below_drewN B2 _⟩
                    case measure => simp [intOf]; omega
                  · go_wp2
                    go_ret
                    exact ⟨rfl, hbw.trans (HB.out.mono (by have := hbw.size; omega))⟩
        · have hne : ((n : Int) == (m : Int)) = false := by rw [beq_eq_false_iff_ne]; omega
          go_wp2
          all_goals go_ret
          all_goals exact ⟨rfl, Below.refl _ _⟩
      · have h20' : ¬ ((s.size : Int) + (16 * (n : Int) + (sumS ss n : Int)) + (16 * (m : Int) + (sumS ts m : Int)) ≤ 1048576) := by omega
        go_wp2
        all_goals go_ret
        all_goals exact ⟨rfl, Below.refl _ _⟩
    · go_wp2
      all_goals go_ret
      all_goals exact ⟨rfl, Below.refl _ _⟩
end Go.Proofs.Qxb6002905a
