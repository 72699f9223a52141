/-
  THE WALK OF matchB1Model.
-/
import Derived.Test.Qxb6600232aTab
namespace Go.Proofs.Qxb6600232a
open Go.RowKit Go.Proofs.Qxb6600232a.Glob
set_option linter.unusedVariables false

set_option maxRecDepth 100000 in
set_option maxHeartbeats 8000000 in
theorem model17 (p b s : ByteArray) (an : Bool) (w : World) (hp : p.size ≤ 1048576) (hs : s.size ≤ 1048576) (hB : Body p b an) :
    Calls Try.prog 17 #[.string p, .string s] w fun e w' => e = .returned (.bool (modelR an b s)) ∧ Below w.heap.size w w' := by
  obtain ⟨i0, hi, hz0, hz1, hz2⟩ := info_parts info4
  have HB : Hid (Body p b an) := hB
  have hbs : b.size ≤ 1048576 := by
    rcases hB with ⟨_, _, rfl⟩ | ⟨_, _, rfl⟩
    · rw [ByteArray.size_extract]; omega
    · exact hp
  clear hB
  go_enter Try.func17, Try.ntmps17
  go_upto_region 1 with fail
  go_cut [5] (fun aV wx => aV = .bool an ∧ wx = w)
  case first =>
    rcases HB.out with ⟨h1, ⟨h0, h2⟩, _⟩ | ⟨h1, h2, _⟩
    · have e0 : (p[p.size - 1].toNat : Int) = 36 := by rw [h2]; rfl
      have AN : Hid (an = true) := h1
      clear h1 h2
      go_wp2_with fail
      go_meet
      exact ⟨by rw [AN.out], rfl⟩
    · have AN : Hid (an = false) := h1
      by_cases h0 : 0 < p.size
      · have e0 : ((p[p.size - 1].toNat : Int) == 36) = false := byte_ne (y := 36) (h2 h0)
        clear h1 h2
        go_wp2_with fail
        go_meet
        exact ⟨by rw [AN.out], rfl⟩
      · clear h1 h2
        go_wp2_with fail
        go_meet
        exact ⟨by rw [AN.out], rfl⟩
  case rest =>
    obtain ⟨rfl, hw⟩ := hcut
    obtain rfl := hw.symm
    go_upto_if 27 with fail
    go_cut [6] (fun bV wx => bV = .string b ∧ wx = w)
    case first =>
      rcases HB.out with ⟨h1, ⟨h0, h2⟩, h3⟩ | ⟨h1, h2, h3⟩
      · subst h1
        subst h3
        clear h2
        go_wp2_with fail
        go_meet
        exact ⟨rfl, rfl⟩
      · subst h1
        subst h3
        clear h2
        go_wp2_with fail
        go_meet
        exact ⟨rfl, rfl⟩
    case rest =>
      obtain ⟨rfl, hw⟩ := hcut
      obtain rfl := hw.symm
      clear HB
      go_upto_region 7 with (at_make; go_must (refine wpList_make_full _ rfl _ _ 30 rfl w.heap.size 4 i0 (.bool false) 1 Try.underlying30 hi hz0 hz1 .i64 .i64 _ _ (s.size + 1) rfl rfl (by omega) (by omega) (by rw [hz2]; omega) (by unfold maxLen; omega) (Nat.le_refl _) ?_; intro w1 hown1 hg1))
      have R1 : Hid (Row w1 w.heap.size (s.size + 1) (fun _ => false)) := Row.made hown1
      have b1 : Below w.heap.size w w1 := (Below.refl _ _).grown hg1 (Nat.le_refl _) (by simp)
      have l1 := R1.out.lt
      clear hown1 hg1
      go_upto_region 8 with (at_make; go_must (refine wpList_make_full _ rfl _ _ 30 rfl w1.heap.size 4 i0 (.bool false) 1 Try.underlying30 hi hz0 hz1 .i64 .i64 _ _ (s.size + 1) rfl rfl (by omega) (by omega) (by rw [hz2]; omega) (by unfold maxLen; omega) (Nat.le_refl _) ?_; intro w2 hown2 hg2))
      have N2 : Row w2 w1.heap.size (s.size + 1) (fun _ => false) := Row.made hown2
      have b2 : Below w1.heap.size w1 w2 := (Below.refl _ _).grown hg2 (Nat.le_refl _) (by simp)
      have C2 := R1.out.below b2
      have c0 := C2.cell 0 (by omega)
      have f0 := C2.free 0
      have T0 : Hid (Tab b s w (w2.setCell ⟨w.heap.size, 0, none⟩ (.bool true)) w.heap.size w1.heap.size (s.size + 1) 0 (fun _ => false)) := by
        refine ⟨by omega, Nat.le_refl _, by omega, (C2.put 0 true).ext ?_, N2.other (by omega) 0 _, (b1.trans (b2.mono (by omega))).setCell (p := ⟨w.heap.size, 0, none⟩) (Nat.le_refl _) _⟩
        intro q hq
        rw [dp]
        by_cases e : q = 0
        · rw [if_pos e, decide_eq_true e]
        · rw [if_neg e, decide_eq_false e]
      clear hown2 hg2 R1 b1 N2 b2 C2
      go_wp2_with fail
      go_loopg [8, 9, 10] b.size (fun g cV nV iV wr => ∃ (gc gn k : Nat) (h : Nat → Bool), cV = .slice (some ⟨gc, 0, none⟩) (s.size + 1) (s.size + 1) ∧ nV = .slice (some ⟨gn, 0, none⟩) (s.size + 1) (s.size + 1) ∧ iV = .int .i64 k ∧ k ≤ b.size ∧ g = b.size - k ∧ Hid (Tab b s w wr gc gn (s.size + 1) k h))
      case atStart => exact ⟨_, _, 0, _, rfl, rfl, rfl, Nat.zero_le _, rfl, T0⟩
      case round =>
        clear T0 c0 f0 l1
        obtain ⟨gc, gn, k, h, rfl, rfl, rfl, hk, rfl, T⟩ := hrel
        by_cases hlt : k < b.size
        · have DA : Hid (∀ q, dp b s (k + 1) q = stN b[k] s (dp b s k) q) := dp_at b s k hlt
          by_cases hc : b[k] = 42
          · have e0 : (b[k].toNat : Int) = 42 := by rw [hc]; rfl
            have DA2 : Hid (∀ q, dp b s (k + 1) q = stN 42 s (dp b s k) q) := by have := DA.out; rw [hc] at this; exact this
            clear hc DA
            go_wp2_with fail
            go_loopw [11, 12] (fun sV jV wx => ∃ (j : Nat) (h : Nat → Bool), j ≤ s.size + 1 ∧ jV = .int .i64 j ∧ sV = .bool (anyLt (dp b s k) j) ∧ Hid (Tab b s w wx gc gn (s.size + 1) k h) ∧ Hid (Upto 42 s (dp b s k) h j)) (fun _ jV _ => s.size + 1 - (intOf jV).toNat)
            case atStart => exact ⟨0, h, Nat.zero_le _, rfl, rfl, T, fun q hq => absurd hq (by omega)⟩
            case round =>
              clear T
              obtain ⟨j, h, hj, rfl, rfl, T, U⟩ := hrel
              by_cases hj2 : j < s.size + 1
              · have c1 := T.out.cur.cell j hj2
                have c2 := T.out.nxt.cell j hj2
                have f2 := T.out.nxt.free j
                have ST := st_star s (dp b s k) j
                have AL : Hid (anyLt (dp b s k) (j + 1) = (anyLt (dp b s k) j || dp b s k j)) := rfl
                have TP : ∀ x, Tab b s w (wr.setCell ⟨gn, j, none⟩ (.bool x)) gc gn (s.size + 1) k (fun q => if q = j then x else h q) := fun x => T.out.put j x
                have UP : ∀ x, x = (anyLt (dp b s k) j || dp b s k j) → Upto 42 s (dp b s k) (fun q => if q = j then x else h q) (j + 1) := fun x hx => U.out.put (hx.trans ST.symm)
                clear ST
                have TP' : Hid (∀ x, Tab b s w (wr.setCell ⟨gn, j, none⟩ (.bool x)) gc gn (s.size + 1) k (fun q => if q = j then x else h q)) := TP
                have UP' : Hid (∀ x, x = (anyLt (dp b s k) j || dp b s k j) → Upto 42 s (dp b s k) (fun q => if q = j then x else h q) (j + 1)) := UP
                clear TP UP
                have g1 : (0 : Int) ≤ (j : Int) := by omega
                have g2 : (j : Int) < (s.size : Int) + 1 := by omega
                cases hcur : dp b s k j with
                | true =>
                  rw [hcur] at c1
                  have HC : Hid (dp b s k j = true) := hcur
                  clear hcur
                  go_wp2_with fail
                  go_roundw
                  case rel => exact ⟨j + 1, _, by omega, by go_num, by rw [AL.out, HC.out, Bool.or_true], TP'.out true, UP'.out true (by rw [HC.out, Bool.or_true])⟩
                  case measure => simp [intOf]; omega
                | false =>
                  rw [hcur] at c1
                  have HC : Hid (dp b s k j = false) := hcur
                  clear hcur
                  go_wp2_with fail
                  go_roundw
                  case rel => exact ⟨j + 1, _, by omega, by go_num, by rw [AL.out, HC.out, Bool.or_false], TP'.out _, UP'.out _ (by rw [HC.out, Bool.or_false])⟩
                  case measure => simp [intOf]; omega
              · have SW := T.out.swap (fun q hq => (U.out q (by omega)).trans (DA2.out q).symm)
                have hj3 : ¬ (j : Int) ≤ (s.size : Int) := by omega
                go_wp2_with fail
                go_roundg (b.size - (k + 1))
                case measure => omega
                case rel => exact ⟨gn, gc, k + 1, _, rfl, rfl, by go_num, by omega, rfl, SW⟩
          · have e0 : ((b[k].toNat : Int) == 42) = false := byte_ne (y := 42) hc
            have z1 := T.out.nxt.cell 0 (by omega)
            have z2 := T.out.nxt.free 0
            have TZ : Hid (Tab b s w (wr.setCell ⟨gn, 0, none⟩ (.bool false)) gc gn (s.size + 1) k (fun q => if q = 0 then false else h q)) := T.out.put 0 false
            have UZ : Hid (Upto b[k] s (dp b s k) (fun q => if q = 0 then false else h q) 1) := Upto.put (j := 0) (fun q hq => absurd hq (by omega)) (st_zero hc _ _)
            have SL : Hid (∀ j (hj : j < s.size), stN b[k] s (dp b s k) (j + 1) = (dp b s k j && decide (s[j] = b[k]))) := fun j hj => st_lit hc s _ j hj
            clear hc
            go_wp2_with fail
            go_loopw [13] (fun jV wx => ∃ (j : Nat) (h : Nat → Bool), j ≤ s.size ∧ jV = .int .i64 ((j : Int) + 1) ∧ Hid (Tab b s w wx gc gn (s.size + 1) k h) ∧ Hid (Upto b[k] s (dp b s k) h (j + 1))) (fun jV _ => s.size + 1 - (intOf jV).toNat)
            case atStart => exact ⟨0, _, Nat.zero_le _, by go_num, TZ, UZ⟩
            case round =>
              clear T TZ UZ z1 z2
              obtain ⟨j, h, hj, rfl, T, U⟩ := hrel
              by_cases hj2 : j < s.size
              · have c1 := T.out.cur.cell j (by omega)
                have c2 := T.out.nxt.cell (j + 1) (by omega)
                have f2 := T.out.nxt.free (j + 1)
                have ST := SL.out j hj2
                have TP' : Hid (∀ x, Tab b s w (wr.setCell ⟨gn, j + 1, none⟩ (.bool x)) gc gn (s.size + 1) k (fun q => if q = j + 1 then x else h q)) := fun x => T.out.put (j + 1) x
                have UP' : Hid (∀ x, x = (dp b s k j && decide (s[j] = b[k])) → Upto b[k] s (dp b s k) (fun q => if q = j + 1 then x else h q) (j + 1 + 1)) := fun x hx => U.out.put (hx.trans ST.symm)
                clear ST
                have g1 : (0 : Int) ≤ (j : Int) := by omega
                have g2 : (j : Int) < (s.size : Int) + 1 := by omega
                have g3 : (j : Int) < (s.size : Int) := by omega
                have g4 : (j : Int) + 1 < (s.size : Int) + 1 := by omega
                have g5 : (0 : Int) ≤ (j : Int) + 1 := by omega
                cases hcur : dp b s k j with
                | true =>
                  rw [hcur] at c1
                  have HC : Hid (dp b s k j = true) := hcur
                  clear hcur
                  by_cases he : s[j] = b[k]
                  · have e1 := byte_eq he
                    have HE : Hid (decide (s[j] = b[k]) = true) := decide_eq_true he
                    clear he
                    go_wp2_with fail
                    go_region
                    all_goals (try go_wp2)
                    go_roundw
                    case rel => exact ⟨j + 1, _, by omega, by go_num, (TP'.out true).drew, UP'.out true (by rw [HC.out, HE.out]; rfl)⟩
                    case measure => simp [intOf]; omega
                  · have e1 := byte_ne he
                    have HE : Hid (decide (s[j] = b[k]) = false) := decide_eq_false he
                    clear he
                    go_wp2_with fail
                    go_region
                    all_goals (try go_wp2)
                    go_roundw
                    case rel => exact ⟨j + 1, _, by omega, by go_num, (TP'.out false).drew, UP'.out false (by rw [HC.out, HE.out]; rfl)⟩
                    case measure => simp [intOf]; omega
                | false =>
                  rw [hcur] at c1
                  have HC : Hid (dp b s k j = false) := hcur
                  clear hcur
                  go_wp2_with fail
                  go_region
                  all_goals (try go_wp2)
                  go_roundw
                  case rel => exact ⟨j + 1, _, by omega, by go_num, (TP'.out false).drew, UP'.out false (by rw [HC.out]; rfl)⟩
                  case measure => simp [intOf]; omega
              · have SW := T.out.swap (fun q hq => (U.out q (by omega)).trans (DA.out q).symm)
                have hj3 : ¬ (j : Int) + 1 ≤ (s.size : Int) := by omega
                go_wp2_with fail
                go_roundg (b.size - (k + 1))
                case measure => omega
                case rel => exact ⟨gn, gc, k + 1, _, rfl, rfl, by go_num, by omega, rfl, SW⟩
        · obtain rfl : k = b.size := by omega
          cases an with
          | true =>
            have c1 := T.out.cur.cell s.size (by omega)
            have MR : Hid (modelR true b s = dp b s b.size s.size) := rfl
            generalize dp b s b.size s.size = x at c1 MR
            go_wp2_with fail
            go_ret
            exact ⟨by rw [MR.out]; rfl, T.out.bel⟩
          | false =>
            go_wp2_with fail
            go_loop [14] (fun jV => ∃ (j : Nat), j ≤ s.size + 1 ∧ jV = .int .i64 j ∧ Hid (anyLt (dp b s b.size) j = false)) (fun jV => s.size + 1 - (intOf jV).toNat)
            case atStart => exact ⟨0, Nat.zero_le _, rfl, rfl⟩
            case round =>
              obtain ⟨j, hj, rfl, H⟩ := hrel
              by_cases hj2 : j < s.size + 1
              · have c1 := T.out.cur.cell j hj2
                have g1 : (0 : Int) ≤ (j : Int) := by omega
                have g2 : (j : Int) < (s.size : Int) + 1 := by omega
                cases hcur : dp b s b.size j with
                | true =>
                  have MR : Hid (modelR false b s = true) := (anyLt_iff _ _).2 ⟨j, hj2, hcur⟩
                  rw [hcur] at c1
                  clear hcur
                  go_wp2_with fail
                  go_ret
                  exact ⟨by rw [MR.out]; rfl, T.out.bel⟩
                | false =>
                  have H2 : Hid (anyLt (dp b s b.size) (j + 1) = false) := by show (anyLt _ _ || _) = false; rw [H.out, hcur]; rfl
                  rw [hcur] at c1
                  clear hcur
                  go_wp2_with fail
                  go_round
                  case rel => exact ⟨j + 1, by omega, by go_num, H2⟩
                  case measure => simp [intOf]; omega
              · have MR : Hid (modelR false b s = false) := by
                  have : j = s.size + 1 := by omega
                  have h := H.out
                  rw [this] at h
                  exact h
                have hj3 : ¬ (j : Int) ≤ (s.size : Int) := by omega
                go_wp2_with fail
                go_ret
                exact ⟨by rw [MR.out]; rfl, T.out.bel⟩
end Go.Proofs.Qxb6600232a
