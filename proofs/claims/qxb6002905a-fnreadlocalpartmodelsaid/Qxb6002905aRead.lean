/-
  THE WALK OF readLocalPart: it computes 'rd'.
-/
import Derived.Test.Qxb6002905aPct
import Derived.Test.Qxb6002905aHops
import Derived.RegionTactic
namespace Go.Proofs.Qxb6002905a
open Go.RowKit
set_option linter.unusedVariables false

/-- what the loop holds: the hops read so far, what is left, the two candidates kept -/
structure Reads (s : ByteArray) (pf : Bool) (w wr : World) (B bb : Nat) (pre : List (ByteArray × ByteArray)) (v : Value) (l r r0 l0 f : Nat) (out : List (ByteArray × ByteArray)) : Prop where
  hl : l ≤ r
  hr : r ≤ r0
  hr0 : r0 ≤ s.size
  hl0 : l0 ≤ l
  own : OwnH wr B v (pre ++ out)
  ne : v.ownBlock ≠ some bb
  hop : HopAt wr bb (fbN s l r0) (fbK s l r0)
  bel : Below B w wr
  fuel : r - l < f
  len : out.length + (r - l) ≤ s.size
  all : rd s pf (s.size + 1) 0 s.size = (out ++ (rd s pf f l r).1, (rd s pf f l r).2)

/-- a percent step -/
theorem Reads.stepP {s : ByteArray} {pf : Bool} {w wr w3 : World} {B bb : Nat} {pre : List (ByteArray × ByteArray)} {v v' : Value} {l r r0 l0 f i : Nat} {out : List (ByteArray × ByteArray)}
    (R : Reads s pf w wr B bb pre v l r r0 l0 (f + 1) out) (hc : (canP s l r && (pf || !canB s l r)) = true) (hi : lpI s l r = i) (h1 : l < i) (h2 : i < r)
    (S1 : OwnH w3 B v' ((pre ++ out) ++ [(lpN s l r, domain)])) (S2 : Below B w w3) (S3 : v'.ownBlock ≠ some bb) (S4 : w3.heap[bb]? = wr.heap[bb]?) :
    Reads s pf w w3 B bb pre v' l i r0 l f (out ++ [(lpN s l r, domain)]) := by
  have g1 := R.hl; have g2 := R.hr; have g3 := R.fuel; have g4 := R.len
  refine ⟨by omega, by omega, R.hr0, Nat.le_refl _, by rw [← List.append_assoc]; exact S1, S3, ?_, S2, by omega, by rw [List.length_append, List.length_singleton]; omega, ?_⟩
  · unfold HopAt; rw [S4]; exact R.hop
  · rw [R.all, rd_P hc, hi, Int.toNat_natCast]
    simp
/-- a bang step -/
theorem Reads.stepB {s : ByteArray} {pf : Bool} {w wr w3 w4 : World} {B bb : Nat} {pre : List (ByteArray × ByteArray)} {v v' : Value} {l r r0 l0 f b : Nat} {out : List (ByteArray × ByteArray)}
    (R : Reads s pf w wr B bb pre v l r r0 l0 (f + 1) out) (hn : (canP s l r && (pf || !canB s l r)) = false) (hc : canB s l r = true) (hi : fbI s l r = b) (h1 : l ≤ b) (h2 : b + 1 < r) (hBb : B ≤ bb)
    (S1 : OwnH w3 B v' ((pre ++ out) ++ [(fbN s l r, fbK s l r)])) (S2 : Below B w w3) (S3 : v'.ownBlock ≠ some bb) (S4 : w3.heap[bb]? = wr.heap[bb]?) (hb : bb < w3.heap.size) (hB3 : B ≤ w3.heap.size) (b4 : Below w3.heap.size w3 w4) :
    Reads s pf w ((w4.setCell ⟨bb, 0, none⟩ (.string (fbN s (b + 1) r))).setCell ⟨bb, 1, none⟩ (.string (fbK s (b + 1) r))) B bb pre v' (b + 1) r r l0 f (out ++ [(fbN s l r, fbK s l r)]) := by
  have g1 := R.hl; have g2 := R.hr; have g3 := R.fuel; have g4 := R.len; have g5 := R.hr0; have g6 := R.hl0
  have H4 : HopAt w4 bb (fbN s l r0) (fbK s l r0) := by
    have : HopAt w3 bb (fbN s l r0) (fbK s l r0) := by unfold HopAt; rw [S4]; exact R.hop
    exact this.below hb b4
  refine ⟨by omega, Nat.le_refl _, by omega, by omega, ?_, S3, H4.set, ?_, by omega, by rw [List.length_append, List.length_singleton]; omega, ?_⟩
  · rw [← List.append_assoc]
    exact ((S1.below b4).setCell S3 0 _).setCell S3 1 _
  · exact ((S2.trans (b4.mono hB3)).setCell (p := ⟨bb, 0, none⟩) hBb _).setCell (p := ⟨bb, 1, none⟩) hBb _
  · rw [R.all, rd_B hn hc, hi, Int.toNat_natCast]
    simp

theorem str_ne {b : ByteArray} (h : 0 < b.size) : b.toList.isEmpty = false := ne_empty b h
theorem str_eq {b : ByteArray} (h : ¬ 0 < b.size) : b.toList.isEmpty = true := is_empty b h

set_option maxHeartbeats 8000000 in
theorem read20 (s : ByteArray) (pf : Bool) (v0 : Value) (pre : List (ByteArray × ByteArray)) (B : Nat) (w : World) (hs : s.size ≤ 1048576) (hp : pre.length ≤ 1048576) (hB : B ≤ w.heap.size) (hown : OwnH w B v0 pre) :
    Calls Try.prog 20 #[.string s, .bool pf, v0] w fun e w' => ∃ v, e = .returned (.tuple #[v, .string (s.extract (rd s pf (s.size + 1) 0 s.size).2.1 (rd s pf (s.size + 1) 0 s.size).2.2)]) ∧ OwnH w' B v (pre ++ (rd s pf (s.size + 1) 0 s.size).1) ∧ Below B w w' := by
  obtain ⟨i0, hi, hz0, hz1, hz2⟩ := info_parts info34
  have HO : Hid (OwnH w B v0 pre) := hown
  clear hown
  go_enter Try.func20, Try.ntmps20
  go_wp2_with fail
  refine (bang30 s 0 s.size (Nat.zero_le _) (Nat.le_refl _) (by omega) _).mono ?_
  rintro e w1 ⟨rfl, b1⟩
  have O1 : Hid (OwnH w1 B v0 pre) := HO.out.below b1
  have A1 := b1.size
  have N1 : Hid (v0.ownBlock ≠ some w1.heap.size) := fun h => by have := ownBlock_lt O1.out _ h; omega
  go_wp2_with fail
  refine (last31 s 0 s.size (Nat.zero_le _) (Nat.le_refl _) (by omega) _).mono ?_
  rintro e w2 ⟨rfl, rfl⟩
  go_wp2_with fail
  go_loopw [2, 8, 9, 10, 12, 13] (fun v lV rV bV pV phV wr => ∃ (l r r0 l0 f : Nat) (out : List (ByteArray × ByteArray)), lV = .int .i64 l ∧ rV = .int .i64 r ∧ bV = .int .i64 (fbI s l r0) ∧ pV = .int .i64 (lpI s l0 r) ∧ phV = .string (lpN s l0 r) ∧ Hid (Reads s pf w wr B w1.heap.size pre v l r r0 l0 f out)) (fun _ lV rV _ _ _ _ => ((intOf rV) - (intOf lV)).toNat)
  case atStart =>
    refine ⟨0, s.size, s.size, 0, s.size + 1, [], rfl, rfl, rfl, rfl, rfl, ?_⟩
    refine ⟨Nat.zero_le _, Nat.le_refl _, Nat.le_refl _, Nat.le_refl _, ?_, N1.out, ?_, (b1.mono hB).alloc (by omega) _, by omega, by simp, ?_⟩
    · rw [List.append_nil]; exact World.ownsRow.alloc O1.out _
    · exact heap_alloc_new w1 _
    · simp
  case round =>
    clear HO O1 N1 b1
    obtain ⟨l, r, r0, l0, f, out, rfl, rfl, rfl, rfl, rfl, HR⟩ := hrel
    have q1 := HR.out.hl
    have q2 := HR.out.hr
    have q3 := HR.out.hr0
    have q4 := HR.out.hl0
    have q5 := HR.out.len
    have qf := HR.out.fuel
    have z1 := HR.out.bel.size
    have z2 := HR.out.hop.lt
    have rb := fbI_range s l r0
    have rp := lpI_range s l0 r
    have c0 := HR.out.hop.c0
    have c1 := HR.out.hop.c1
    obtain ⟨g, rfl⟩ : ∃ g, f = g + 1 := ⟨f - 1, by omega⟩
    obtain ⟨kB1, kB2⟩ := canB_kept s l r r0 q2
    obtain ⟨kP1, kP2⟩ := canP_kept s l0 l r q4
    cases hcP : canP s l r with
    | true =>
      obtain ⟨eI, eN⟩ := kP2 hcP
      obtain ⟨i, hiE, hi1, hi2⟩ := canP_range hcP
      rw [hcP, Bool.and_eq_true, decide_eq_true_iff, decide_eq_true_iff] at kP1
      have p1 := str_ne kP1.1
      have p2 := kP1.2
      cases pf with
      | true =>
        have hcond : Hid ((canP s l r && (true || !canB s l r)) = true) := by show _ = _; rw [hcP]; rfl
        have EN : Hid (lpN s l0 r = lpN s l r) := eN
        have EI : Hid (lpI s l0 r = (i : Int)) := eI.trans hiE
        have HI : Hid (lpI s l r = (i : Int)) := hiE
        clear kB1 kB2 kP1 kP2 hcP eI eN hiE
        go_wp2_with (first
          | (at_builtin; go_must (refine wpList_append_sep _ rfl (.tmp 62) (.tmp 65) 31 rfl B 34 i0 _ 2 32 Try.underlying31 hi hz0 hz1 hz2 rfl (by decide) _ _ _ rfl (World.ownsRow.alloc HR.out.own _) ⟨wr.heap.size, 0, none⟩ 1 1 [_, _] rfl rfl (two_new _ _ _ _) (two_cell _ _) (by decide) (by unfold maxLen; rw [List.length_append]; omega) (by rw [List.length_append]; omega) (by simp; omega) ?_; intro v' w3 hown' hgrow hk))
          | (go_at_call 31; go_must (rw [EI.out]; refine (last31 s l i (by omega) (by omega) (by omega) _).mono ?_; rintro e w' ⟨rfl, rfl⟩)))
        all_goals
          obtain ⟨S1, S2, S3, S4⟩ := own_hop (n := lpN s l0 r) (k := domain) HR.out.own HR.out.bel hB hown' hgrow hk z2 HR.out.ne
          rw [EN.out] at S1
          have R2 := HR.out.stepP hcond.out HI.out hi1 hi2 S1 S2 S3 S4
          go_roundw
          case rel => exact ⟨l, i, r0, l, g, _, rfl, rfl, rfl, rfl, rfl, R2⟩
          case measure => simp [intOf]; omega
      | false =>
        cases hcB0 : canB s l r with
        | true =>
          obtain ⟨fI, fN, fK⟩ := kB2 hcB0
          obtain ⟨b, hbE, hb1, hb2⟩ := canB_range hcB0
          rw [hcB0, Bool.and_eq_true, decide_eq_true_iff, decide_eq_true_iff] at kB1
          have n1 := str_ne kB1.1
          have n2 := kB1.2
          have hcond : Hid ((canP s l r && (false || !canB s l r)) = false) := by show _ = _; rw [hcB0]; simp
          have hcB : Hid (canB s l r = true) := hcB0
          have EI : Hid (fbI s l r0 = (b : Int)) := fI.trans hbE
          have HI : Hid (fbI s l r = (b : Int)) := hbE
          have E2 : Hid (fbN s l r0 = fbN s l r) := fN
          have E3 : Hid (fbK s l r0 = fbK s l r) := fK
          have hi1 := hb1
          have hi2 := hb2
          clear kB1 kB2 kP1 kP2 hcP hcB0 eI eN hiE fI fN fK hbE
          go_wp2_with (first
            | (at_builtin; go_must (refine wpList_append_sep _ rfl (.tmp 77) (.tmp 79) 31 rfl B 34 i0 _ 2 32 Try.underlying31 hi hz0 hz1 hz2 rfl (by decide) _ _ _ rfl (World.ownsRow.alloc HR.out.own _) ⟨wr.heap.size, 0, none⟩ 1 1 [_, _] rfl rfl (two_new _ _ _ _) (two_cell _ _) (by decide) (by unfold maxLen; rw [List.length_append]; omega) (by rw [List.length_append]; omega) (by simp; omega) ?_; intro v' w3 hown' hgrow hk; obtain ⟨S1, S2, S3, S4⟩ := own_hop (n := fbN s l r0) (k := fbK s l r0) HR.out.own HR.out.bel hB hown' hgrow hk z2 HR.out.ne; have H3 : HopAt w3 w1.heap.size (fbN s l r0) (fbK s l r0) := S4.trans HR.out.hop; have z3 := H3.lt; clear hown' hgrow hk))
            | (go_at_call 30; go_must (rw [EI.out, show ((b : Int) + 1) = ((b + 1 : Nat) : Int) from by omega]; refine (bang30 s (b + 1) r (by omega) (by omega) (by omega) _).mono ?_; rintro e w4 ⟨rfl, b4⟩; have H4 := H3.below z3 b4; have d0 := H4.c0; have d1 := H4.c1; have f0 := H4.f 0; have f1 := H4.f 1)))
          all_goals
            rw [E2.out, E3.out] at S1
            have R2 := HR.out.stepB hcond.out hcB.out HI.out hi1 hi2 (by omega) S1 S2 S3 S4 z3 (by omega) b4
            go_roundw
            case rel => exact ⟨b + 1, r, r, l0, g, _, rfl, rfl, rfl, rfl, rfl, R2⟩
            case measure => simp [intOf]; omega
        | false =>
          have hcond : Hid ((canP s l r && (false || !canB s l r)) = true) := by show _ = _; rw [hcP, hcB0]; rfl
          have EN : Hid (lpN s l0 r = lpN s l r) := eN
          have EI : Hid (lpI s l0 r = (i : Int)) := eI.trans hiE
          have HI : Hid (lpI s l r = (i : Int)) := hiE
          rw [hcB0, Bool.and_eq_false_iff, decide_eq_false_iff_not, decide_eq_false_iff_not] at kB1
          by_cases nn : 0 < (fbN s l r0).size
          · have n1 := str_ne nn
            have n2 : ¬ fbI s l r0 + 1 < (r : Int) := kB1.elim (fun h => absurd nn h) id
            clear kB1 kB2 kP1 kP2 hcP hcB0 eI eN hiE nn
            go_wp2_with (first
              | (at_builtin; go_must (refine wpList_append_sep _ rfl (.tmp 62) (.tmp 65) 31 rfl B 34 i0 _ 2 32 Try.underlying31 hi hz0 hz1 hz2 rfl (by decide) _ _ _ rfl (World.ownsRow.alloc HR.out.own _) ⟨wr.heap.size, 0, none⟩ 1 1 [_, _] rfl rfl (two_new _ _ _ _) (two_cell _ _) (by decide) (by unfold maxLen; rw [List.length_append]; omega) (by rw [List.length_append]; omega) (by simp; omega) ?_; intro v' w3 hown' hgrow hk))
              | (go_at_call 31; go_must (rw [EI.out]; refine (last31 s l i (by omega) (by omega) (by omega) _).mono ?_; rintro e w' ⟨rfl, rfl⟩)))
            all_goals
              obtain ⟨S1, S2, S3, S4⟩ := own_hop (n := lpN s l0 r) (k := domain) HR.out.own HR.out.bel hB hown' hgrow hk z2 HR.out.ne
              rw [EN.out] at S1
              have R2 := HR.out.stepP hcond.out HI.out hi1 hi2 S1 S2 S3 S4
              go_roundw
              case rel => exact ⟨l, i, r0, l, g, _, rfl, rfl, rfl, rfl, rfl, R2⟩
              case measure => simp [intOf]; omega
          · have n1 := str_eq nn
            clear kB1 kB2 kP1 kP2 hcP hcB0 eI eN hiE nn
            go_wp2_with (first
              | (at_builtin; go_must (refine wpList_append_sep _ rfl (.tmp 62) (.tmp 65) 31 rfl B 34 i0 _ 2 32 Try.underlying31 hi hz0 hz1 hz2 rfl (by decide) _ _ _ rfl (World.ownsRow.alloc HR.out.own _) ⟨wr.heap.size, 0, none⟩ 1 1 [_, _] rfl rfl (two_new _ _ _ _) (two_cell _ _) (by decide) (by unfold maxLen; rw [List.length_append]; omega) (by rw [List.length_append]; omega) (by simp; omega) ?_; intro v' w3 hown' hgrow hk))
              | (go_at_call 31; go_must (rw [EI.out]; refine (last31 s l i (by omega) (by omega) (by omega) _).mono ?_; rintro e w' ⟨rfl, rfl⟩)))
            all_goals
              obtain ⟨S1, S2, S3, S4⟩ := own_hop (n := lpN s l0 r) (k := domain) HR.out.own HR.out.bel hB hown' hgrow hk z2 HR.out.ne
              rw [EN.out] at S1
              have R2 := HR.out.stepP hcond.out HI.out hi1 hi2 S1 S2 S3 S4
              go_roundw
              case rel => exact ⟨l, i, r0, l, g, _, rfl, rfl, rfl, rfl, rfl, R2⟩
              case measure => simp [intOf]; omega
    | false =>
      have hcond0 : (canP s l r && (pf || !canB s l r)) = false := by rw [hcP]; rfl
      have hcond : Hid ((canP s l r && (pf || !canB s l r)) = false) := hcond0
      rw [hcP, Bool.and_eq_false_iff, decide_eq_false_iff_not, decide_eq_false_iff_not] at kP1
      cases hcB0 : canB s l r with
      | true =>
        obtain ⟨fI, fN, fK⟩ := kB2 hcB0
        obtain ⟨b, hbE, hb1, hb2⟩ := canB_range hcB0
        rw [hcB0, Bool.and_eq_true, decide_eq_true_iff, decide_eq_true_iff] at kB1
        have n1 := str_ne kB1.1
        have n2 := kB1.2
        have hcB : Hid (canB s l r = true) := hcB0
        have EI : Hid (fbI s l r0 = (b : Int)) := fI.trans hbE
        have HI : Hid (fbI s l r = (b : Int)) := hbE
        have E2 : Hid (fbN s l r0 = fbN s l r) := fN
        have E3 : Hid (fbK s l r0 = fbK s l r) := fK
        have hi1 := hb1
        have hi2 := hb2
        by_cases pp : 0 < (lpN s l0 r).size
        · have p1 := str_ne pp
          have p2 : ¬ (l : Int) < lpI s l0 r := kP1.elim (fun h => absurd pp h) id
          clear kB1 kB2 kP1 kP2 hcP hcB0 hcond0 fI fN fK hbE pp
          go_wp2_with (first
            | (at_builtin; go_must (refine wpList_append_sep _ rfl (.tmp 77) (.tmp 79) 31 rfl B 34 i0 _ 2 32 Try.underlying31 hi hz0 hz1 hz2 rfl (by decide) _ _ _ rfl (World.ownsRow.alloc HR.out.own _) ⟨wr.heap.size, 0, none⟩ 1 1 [_, _] rfl rfl (two_new _ _ _ _) (two_cell _ _) (by decide) (by unfold maxLen; rw [List.length_append]; omega) (by rw [List.length_append]; omega) (by simp; omega) ?_; intro v' w3 hown' hgrow hk; obtain ⟨S1, S2, S3, S4⟩ := own_hop (n := fbN s l r0) (k := fbK s l r0) HR.out.own HR.out.bel hB hown' hgrow hk z2 HR.out.ne; have H3 : HopAt w3 w1.heap.size (fbN s l r0) (fbK s l r0) := S4.trans HR.out.hop; have z3 := H3.lt; clear hown' hgrow hk))
            | (go_at_call 30; go_must (rw [EI.out, show ((b : Int) + 1) = ((b + 1 : Nat) : Int) from by omega]; refine (bang30 s (b + 1) r (by omega) (by omega) (by omega) _).mono ?_; rintro e w4 ⟨rfl, b4⟩; have H4 := H3.below z3 b4; have d0 := H4.c0; have d1 := H4.c1; have f0 := H4.f 0; have f1 := H4.f 1)))
          all_goals
            rw [E2.out, E3.out] at S1
            have R2 := HR.out.stepB hcond.out hcB.out HI.out hi1 hi2 (by omega) S1 S2 S3 S4 z3 (by omega) b4
            go_roundw
            case rel => exact ⟨b + 1, r, r, l0, g, _, rfl, rfl, rfl, rfl, rfl, R2⟩
            case measure => simp [intOf]; omega
        · have p1 := str_eq pp
          clear kB1 kB2 kP1 kP2 hcP hcB0 hcond0 fI fN fK hbE pp
          go_wp2_with (first
            | (at_builtin; go_must (refine wpList_append_sep _ rfl (.tmp 77) (.tmp 79) 31 rfl B 34 i0 _ 2 32 Try.underlying31 hi hz0 hz1 hz2 rfl (by decide) _ _ _ rfl (World.ownsRow.alloc HR.out.own _) ⟨wr.heap.size, 0, none⟩ 1 1 [_, _] rfl rfl (two_new _ _ _ _) (two_cell _ _) (by decide) (by unfold maxLen; rw [List.length_append]; omega) (by rw [List.length_append]; omega) (by simp; omega) ?_; intro v' w3 hown' hgrow hk; obtain ⟨S1, S2, S3, S4⟩ := own_hop (n := fbN s l r0) (k := fbK s l r0) HR.out.own HR.out.bel hB hown' hgrow hk z2 HR.out.ne; have H3 : HopAt w3 w1.heap.size (fbN s l r0) (fbK s l r0) := S4.trans HR.out.hop; have z3 := H3.lt; clear hown' hgrow hk))
            | (go_at_call 30; go_must (rw [EI.out, show ((b : Int) + 1) = ((b + 1 : Nat) : Int) from by omega]; refine (bang30 s (b + 1) r (by omega) (by omega) (by omega) _).mono ?_; rintro e w4 ⟨rfl, b4⟩; have H4 := H3.below z3 b4; have d0 := H4.c0; have d1 := H4.c1; have f0 := H4.f 0; have f1 := H4.f 1)))
          all_goals
            rw [E2.out, E3.out] at S1
            have R2 := HR.out.stepB hcond.out hcB.out HI.out hi1 hi2 (by omega) S1 S2 S3 S4 z3 (by omega) b4
            go_roundw
            case rel => exact ⟨b + 1, r, r, l0, g, _, rfl, rfl, rfl, rfl, rfl, R2⟩
            case measure => simp [intOf]; omega
      | false =>
        have hall := HR.out.all
        rw [rd_stop hcond0 hcB0, List.append_nil] at hall
        have FIN : Hid (∀ v : Value, Ending.returned (.tuple #[v, .string (s.extract l r)]) = .returned (.tuple #[v, .string (s.extract (rd s pf (s.size + 1) 0 s.size).2.1 (rd s pf (s.size + 1) 0 s.size).2.2)])) := by intro v; rw [hall]
        have OWN : Hid (pre ++ (rd s pf (s.size + 1) 0 s.size).1 = pre ++ out) := by show _ = _; rw [hall]
        rw [hcB0, Bool.and_eq_false_iff, decide_eq_false_iff_not, decide_eq_false_iff_not] at kB1
        have s1 : (0 : Int) ≤ (l : Int) := by omega
        have s2 : (l : Int) ≤ (r : Int) := by omega
        have s3 : (r : Int) ≤ (s.size : Int) := by omega
        by_cases pp : 0 < (lpN s l0 r).size
        · have p1 := str_ne pp
          have p2 : ¬ (l : Int) < lpI s l0 r := kP1.elim (fun h => absurd pp h) id
          by_cases nn : 0 < (fbN s l r0).size
          · have n1 := str_ne nn
            have n2 : ¬ fbI s l r0 + 1 < (r : Int) := kB1.elim (fun h => absurd nn h) id
            clear kB1 kB2 kP1 kP2 hcP hcB0 hcond0 nn pp hall
            go_wp2
            go_region
            all_goals (try go_wp2)
            all_goals go_ret2
            all_goals exact ⟨_, FIN.out _, by rw [OWN.out]; exact HR.out.own, HR.out.bel.drew⟩
          · have n1 := str_eq nn
            clear kB1 kB2 kP1 kP2 hcP hcB0 hcond0 nn pp hall
            go_wp2
            go_region
            all_goals (try go_wp2)
            all_goals go_ret2
            all_goals exact ⟨_, FIN.out _, by rw [OWN.out]; exact HR.out.own, HR.out.bel.drew⟩
        · have p1 := str_eq pp
          by_cases nn : 0 < (fbN s l r0).size
          · have n1 := str_ne nn
            have n2 : ¬ fbI s l r0 + 1 < (r : Int) := kB1.elim (fun h => absurd nn h) id
            clear kB1 kB2 kP1 kP2 hcP hcB0 hcond0 nn pp hall
            go_wp2
            go_region
            all_goals (try go_wp2)
            all_goals go_ret2
            all_goals exact ⟨_, FIN.out _, by rw [OWN.out]; exact HR.out.own, HR.out.bel.drew⟩
          · have n1 := str_eq nn
            clear kB1 kB2 kP1 kP2 hcP hcB0 hcond0 nn pp hall
            go_wp2
            go_region
            all_goals (try go_wp2)
            all_goals go_ret2
            all_goals exact ⟨_, FIN.out _, by rw [OWN.out]; exact HR.out.own, HR.out.bel.drew⟩

/-- what is left of s -/
def leftB (s : ByteArray) (pf : Bool) : ByteArray := s.extract (rd s pf (s.size + 1) 0 s.size).2.1 (rd s pf (s.size + 1) 0 s.size).2.2
def hopsB (s : ByteArray) (pf : Bool) : List (ByteArray × ByteArray) := (rd s pf (s.size + 1) 0 s.size).1

set_option maxHeartbeats 400000 in
theorem read15 (s : ByteArray) (pf : Bool) (v0 : Value) (pre : List (ByteArray × ByteArray)) (B : Nat) (w : World) (hs : s.size ≤ 1048576) (hp : pre.length ≤ 1048576) (hB : B ≤ w.heap.size) (hown : OwnH w B v0 pre) :
    Calls Try.prog 15 #[.string s, .bool pf, v0] w fun e w' => ∃ v, e = .returned (.tuple #[v, .string (leftB s pf)]) ∧ OwnH w' B v (pre ++ hopsB s pf) ∧ Below B w w' := by
  have HO : Hid (OwnH w B v0 pre) := hown
  clear hown
  go_enter Try.func15, Try.ntmps15
  go_wp2_with (go_at_call 20; go_must (refine (read20 s pf v0 pre B _ hs hp hB HO.out).mono ?_; rintro e w1 ⟨v, rfl, h1, h2⟩))
  go_ret2
  exact ⟨v, rfl, h1, h2⟩
end Go.Proofs.Qxb6002905a
