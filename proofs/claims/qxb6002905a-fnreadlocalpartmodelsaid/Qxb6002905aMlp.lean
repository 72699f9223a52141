/-
  THE WALK OF zzModelLocalPart: it computes 'rd'.
-/
import Derived.Test.Qxb6002905aMlpLaw
import Derived.Test.Qxb6002905aBang
import Derived.Deep.DeepCutAuto
import Derived.Deep.CutBlock
import Derived.Deep.LoopGhost
namespace Go.Proofs.Qxb6002905a
open Go.RowKit
set_option linter.unusedVariables false

/-- what the bang part leaves -/
def BangOut (s : ByteArray) (l r : Nat) (n k : ByteArray) : Prop := canB s l r = true → n = fbN s l r ∧ k = fbK s l r

theorem two_new1 (w : World) (o : Obj) (x y : Value) (t : TypeId) : ∀ j u, [x, y][j]? = some u → ((w.alloc o).alloc (.cells #[x, y] t)).cell? ((⟨w.heap.size + 1, 0, none⟩ : Addr).add j) = some u := by
  have h := two_new (w.alloc o) x y t
  have e : (w.alloc o).heap.size = w.heap.size + 1 := by simp
  rw [e] at h
  exact h
theorem own_not {w : World} {B : Nat} {v : Value} {hs : List (ByteArray × ByteArray)} (h : OwnH w B v hs) : v.ownBlock ≠ some w.heap.size := fun e => by have := ownBlock_lt h _ e; omega
theorem has_two (nm : ByteArray) (x : Int) (a b : Bool) (h46 : has nm.data.toList 46 = a) (h91 : has nm.data.toList 91 = b) (hx : x = 46 ∨ x = 91) (hs : nm.size ≤ 4194304) (w : World) :
    Calls Try.prog 11 #[.string nm, .int .u8 x] w fun e w' => e = .returned (.bool (if x = 46 then a else b)) ∧ w = w' := by
  rcases hx with rfl | rfl
  · rw [if_pos rfl, ← h46]; exact has_call2 nm 46 hs w
  · rw [if_neg (by decide), ← h91]; exact has_call2 nm 91 hs w
theorem byte_no {s : ByteArray} {k : Nat} {c : Nat} (hk : k < s.size) (h : bat s k ≠ some (UInt8.ofNat c)) (hc : c < 256 := by decide) : ((s[k].toNat : Int) == (c : Int)) = false := by
  rw [beq_eq_false_iff_ne]
  intro h'
  exact h (by rw [bat_at s k hk, byte_is (n := c) hc (beq_iff_eq.2 h')])
theorem byte_yes {s : ByteArray} {k : Nat} {c : Nat} (hk : k < s.size) (h : bat s k = some (UInt8.ofNat c)) (hc : c < 256 := by decide) : (s[k].toNat : Int) = (c : Int) := by
  rw [bat_at s k hk, Option.some.injEq] at h
  rw [h, UInt8.toNat_ofNat_of_lt' (by simpa using hc)]

set_option maxRecDepth 100000 in
set_option maxHeartbeats 8000000 in
theorem mlp16 (s : ByteArray) (pf : Bool) (w : World) (hs : s.size ≤ 1048576) :
    Calls Try.prog 16 #[.string s, .bool pf] w fun e w' => ∃ v, e = .returned (.tuple #[v, .string (leftB s pf)]) ∧ OwnH w' w.heap.size v (hopsB s pf) ∧ Below w.heap.size w w' := by
  obtain ⟨i0, hi, hz0, hz1, hz2⟩ := info_parts info34
  go_enter Try.func16, Try.ntmps16
  go_wp2_with fail
  go_loopg [6, 7, 8] s.size (fun g v lV rV wr => ∃ (l r f : Nat) (out : List (ByteArray × ByteArray)), lV = .int .i64 l ∧ rV = .int .i64 r ∧ g = r - l ∧ Hid (Models s pf w wr w.heap.size v l r f out))
  case atStart =>
    refine ⟨0, s.size, s.size + 1, [], rfl, rfl, rfl, ?_⟩
    exact ⟨Nat.zero_le _, Nat.le_refl _, World.ownsRow_nil _ _ _ _, Below.refl _ _, by omega, by simp, by simp⟩
  case round =>
    obtain ⟨l, r, f, out, rfl, rfl, rfl, HM⟩ := hrel
    have q1 := HM.out.hl
    have q2 := HM.out.hr
    have q5 := HM.out.len
    have qf := HM.out.fuel
    have z1 := HM.out.bel.size
    obtain ⟨g, rfl⟩ : ∃ g, f = g + 1 := ⟨f - 1, by omega⟩
    have rb := fbI_range s l r
    have rp := lpI_range s l r
    by_cases hlr : l < r
    · go_upto_block 2 with fail

      go_cut [10, 12] (fun b _ wx => wx = wr.alloc (.cells #[.string ⟨#[]⟩, .string ⟨#[]⟩] 34) ∧ b = .int .i64 (fbI s l r))
      case first =>
        cases hb : bangO s l r with
        | none =>
          have EB : Hid (fbI s l r = -1) := (fb_none hb).1
          have NB : Hid (∀ j, l ≤ j → j < r → bat s j ≠ some 33) := by
            rcases bang_spec s l r with ⟨_, h⟩ | ⟨b, h, _⟩
            · exact h
            · rw [hb] at h; exact absurd h (by simp)
          clear hb
          go_wp2_with fail
          go_loopg [10, 12] (r - l) (fun g b i wx => wx = wr.alloc (.cells #[.string ⟨#[]⟩, .string ⟨#[]⟩] 34) ∧ b = .int .i64 (-1) ∧ ∃ k : Nat, l ≤ k ∧ k ≤ r ∧ g = r - k ∧ i = .int .i64 k)
          case atStart => exact ⟨rfl, rfl, l, by omega, by omega, rfl, rfl⟩
          case round =>
            obtain ⟨rfl, rfl, k, k1, k2, rfl, rfl⟩ := hrel
            by_cases hk : k < r
            · have hks : k < s.size := by omega
              have nb : ((s[k].toNat : Int) == 33) = false := byte_no (c := 33) hks (NB.out k k1 hk)
              go_wp2
              go_roundg (r - (k + 1))
              case measure => omega
              case rel => exact ⟨rfl, rfl, k + 1, by omega, by omega, rfl, by go_num⟩
            · go_wp2
              go_meet
              exact ⟨rfl, by rw [EB.out]⟩
        | some b =>
          have EB : Hid (fbI s l r = b) := (fb_some hb).1
          have IB := bang_is hb
          have b1 := IB.1
          have b2 := IB.2.1
          have B3 : Hid (bat s b = some 33) := IB.2.2.1
          have B4 : Hid (∀ j, l ≤ j → j < b → bat s j ≠ some 33) := IB.2.2.2
          clear hb IB
          go_wp2_with fail
          go_loopg [10, 12] (r - l) (fun g b' i wx => wx = wr.alloc (.cells #[.string ⟨#[]⟩, .string ⟨#[]⟩] 34) ∧ b' = .int .i64 (-1) ∧ ∃ k : Nat, l ≤ k ∧ k ≤ b ∧ g = r - k ∧ i = .int .i64 k)
          case atStart => exact ⟨rfl, rfl, l, by omega, by omega, rfl, rfl⟩
          case round =>
            obtain ⟨rfl, rfl, k, k1, k2, rfl, rfl⟩ := hrel
            have hks : k < s.size := by omega
            by_cases hk : k = b
            · subst hk
              have yb : (s[k].toNat : Int) = 33 := byte_yes (c := 33) hks B3.out
              go_wp2
              go_meet
              exact ⟨rfl, by rw [EB.out]⟩
            · have nb : ((s[k].toNat : Int) == 33) = false := byte_no (c := 33) hks (B4.out k k1 (by omega))
              go_wp2
              go_roundg (r - (k + 1))
              case measure => omega
              case rel => exact ⟨rfl, rfl, k + 1, by omega, by omega, rfl, by go_num⟩
      case rest =>
        obtain ⟨rfl, rfl⟩ := hcut
        go_upto_region 12 with fail
        go_cut [41] (fun c wx => wx = wr.alloc (.cells #[.string ⟨#[]⟩, .string ⟨#[]⟩] 34) ∧ c = .bool (decide (0 ≤ fbI s l r) && decide (fbI s l r + 1 < r)))
        case first =>
          by_cases c1 : 0 ≤ fbI s l r
          · by_cases c2 : fbI s l r + 1 < r
            · go_wp2_with fail
              go_meet
              exact ⟨rfl, by simp [c1, c2]⟩
            · go_wp2_with fail
              go_meet
              exact ⟨rfl, by simp [c1, c2]⟩
          · go_wp2_with fail
            go_meet
            exact ⟨rfl, by rw [decide_eq_false (p := (0 : Int) ≤ fbI s l r) (by omega)]; rfl⟩
        case rest =>
          obtain ⟨rfl, rfl⟩ := hcut
          go_upto_if 41 with fail
          go_cut [9, 10, 13, 14] (fun ok bV _ _ wx => ok = .bool (canB s l r) ∧ bV = .int .i64 (fbI s l r) ∧ ∃ n k, wx = wr.alloc (.cells #[.string n, .string k] 34) ∧ Hid (BangOut s l r n k))
          case first =>
            cases hcc : (decide (0 ≤ fbI s l r) && decide (fbI s l r + 1 < r)) with
            | false =>
              have CB : Hid (canB s l r = false) := by
                show _ = _
                rw [Bool.and_eq_false_iff, decide_eq_false_iff_not, decide_eq_false_iff_not] at hcc
                rcases hcc with h | h
                · rcases bang_spec s l r with ⟨h1, _⟩ | ⟨b, h1, _⟩
                  · exact canB_none h1
                  · rw [(fb_some h1).1] at h; exact absurd h (by omega)
                · exact canB_late h
              clear hcc
              go_wp2_with fail
              go_meet
              exact ⟨by rw [CB.out], rfl, ⟨#[]⟩, ⟨#[]⟩, rfl, fun h => by rw [CB.out] at h; exact absurd h (by simp)⟩
            | true =>
              rw [Bool.and_eq_true, decide_eq_true_iff, decide_eq_true_iff] at hcc
              obtain ⟨b, hb⟩ : ∃ b, bangO s l r = some b := by
                rcases bang_spec s l r with ⟨h1, _⟩ | ⟨b, h1, _⟩
                · rw [(fb_none h1).1] at hcc; exact absurd hcc.1 (by omega)
                · exact ⟨b, h1⟩
              have e1 := (fb_some hb).1
              have BV : Hid (Value.int .i64 (b : Int) = .int .i64 (fbI s l r)) := by show _ = _; rw [e1]
              have b1 := (bang_is hb).1
              rw [e1] at hcc
              rw [e1]
              have b2 : b + 1 < r := by omega
              clear hcc
              go_upto_region 14 with fail
              obtain ⟨nm, hnm⟩ : ∃ nm, s.extract l b = nm := ⟨_, rfl⟩
              have hnz : nm.size ≤ 4194304 := by rw [← hnm, ByteArray.size_extract]; omega
              cases hok : hopOK nm.data.toList with
              | false =>
                have CB : Hid (canB s l r = false) := canB_bad hb (by rw [hnm]; exact hok)
                have OK : Hid (hopOK nm.data.toList = false) := hok
                rw [hnm]
                clear hb hnm hok e1 rb
                go_wp2_with (go_at_call 21; go_must (refine (hop21 nm hnz _).mono ?_; rintro e w' ⟨rfl, rfl⟩; rw [OK.out]))
                go_meet
                exact ⟨by rw [CB.out], BV.out, ⟨#[]⟩, ⟨#[]⟩, rfl, fun h => by rw [CB.out] at h; exact absurd h (by simp)⟩
              | true =>
                have n0 := hopOK_pos hok
                have OK : Hid (hopOK nm.data.toList = true) := hok
                obtain ⟨cB, eN, eK⟩ := canB_good hb (by rw [hnm]; exact hok) b2
                rw [hnm] at cB eN eK ⊢
                clear hb hnm hok e1 rb
                cases h46 : has nm.data.toList 46 with
                | true =>
                  have H46 : Hid (has nm.data.toList 46 = true) := h46
                  obtain ⟨x91, h91⟩ : ∃ x, has nm.data.toList 91 = x := ⟨_, rfl⟩
                  have H91 : Hid (has nm.data.toList 91 = x91) := h91
                  have EK : Hid (fbK s l r = domain) := by show _ = _; rw [eK]; unfold kindOf; rw [h46]; rfl
                  clear h46 h91 eK
                  by_cases hd : nm[nm.size - 1] = 46
                  · have d1 : (nm[nm.size - 1].toNat : Int) = 46 := by rw [hd]; rfl
                    have tr := trim_dot nm n0 hd
                    rw [tr] at cB eN
                    have xs : (nm.extract 0 (nm.size - 1)).size = nm.size - 1 := by rw [ByteArray.size_extract]; omega
                    clear hd tr
                    by_cases n1 : 1 < nm.size
                    · have d2 := ne_empty (nm.extract 0 (nm.size - 1)) (by omega)
                      have CB : Hid (canB s l r = true) := by show _ = _; rw [cB, decide_eq_true (by omega)]
                      have EN : Hid (fbN s l r = nm.extract 0 (nm.size - 1)) := eN
                      clear cB eN xs
                      go_wp2_with (first
                        | (go_at_call 21; go_must (refine (hop21 nm hnz _).mono ?_; rintro e w' ⟨rfl, rfl⟩; rw [OK.out]))
                        | (go_at_call 11; go_must (refine (has_two nm _ _ _ H46.out H91.out (by decide) hnz _).mono ?_; rintro e w' ⟨rfl, rfl⟩; first | rw [if_pos rfl] | rw [if_neg (by decide)])))
                      go_meet
                      exact ⟨by rw [CB.out], BV.out, nm.extract 0 (nm.size - 1), domain, rfl, fun _ => ⟨EN.out.symm, EK.out.symm⟩⟩
                    · have d2 := is_empty (nm.extract 0 (nm.size - 1)) (by omega)
                      have CB : Hid (canB s l r = false) := by show _ = _; rw [cB, decide_eq_false (by omega)]
                      clear cB eN xs
                      go_wp2_with (first
                        | (go_at_call 21; go_must (refine (hop21 nm hnz _).mono ?_; rintro e w' ⟨rfl, rfl⟩; rw [OK.out]))
                        | (go_at_call 11; go_must (refine (has_two nm _ _ _ H46.out H91.out (by decide) hnz _).mono ?_; rintro e w' ⟨rfl, rfl⟩; first | rw [if_pos rfl] | rw [if_neg (by decide)])))
                      go_meet
                      exact ⟨by rw [CB.out], BV.out, ⟨#[]⟩, ⟨#[]⟩, rfl, fun h => by rw [CB.out] at h; exact absurd h (by simp)⟩
                  · have d1 : ((nm[nm.size - 1].toNat : Int) == 46) = false := by
                      rw [beq_eq_false_iff_ne]
                      intro h'
                      exact hd (byte_is (n := 46) (by decide) (beq_iff_eq.2 h'))
                    have tr := trim_nodot nm n0 hd
                    rw [tr] at cB eN
                    have d2 := ne_empty nm n0
                    have CB : Hid (canB s l r = true) := by show _ = _; rw [cB, decide_eq_true n0]
                    have EN : Hid (fbN s l r = nm) := eN
                    clear hd tr cB eN
                    go_wp2_with (first
                      | (go_at_call 21; go_must (refine (hop21 nm hnz _).mono ?_; rintro e w' ⟨rfl, rfl⟩; rw [OK.out]))
                      | (go_at_call 11; go_must (refine (has_two nm _ _ _ H46.out H91.out (by decide) hnz _).mono ?_; rintro e w' ⟨rfl, rfl⟩; first | rw [if_pos rfl] | rw [if_neg (by decide)])))
                    go_meet
                    exact ⟨by rw [CB.out], BV.out, nm, domain, rfl, fun _ => ⟨EN.out.symm, EK.out.symm⟩⟩
                | false =>
                  cases h91 : has nm.data.toList 91 with
                  | true =>
                    have H46 : Hid (has nm.data.toList 46 = false) := h46
                    have H91 : Hid (has nm.data.toList 91 = true) := h91
                    have EK : Hid (fbK s l r = domain) := by show _ = _; rw [eK]; unfold kindOf; rw [h46, h91]; rfl
                    clear h46 h91 eK
                    by_cases hd : nm[nm.size - 1] = 46
                    · have d1 : (nm[nm.size - 1].toNat : Int) = 46 := by rw [hd]; rfl
                      have tr := trim_dot nm n0 hd
                      rw [tr] at cB eN
                      have xs : (nm.extract 0 (nm.size - 1)).size = nm.size - 1 := by rw [ByteArray.size_extract]; omega
                      clear hd tr
                      by_cases n1 : 1 < nm.size
                      · have d2 := ne_empty (nm.extract 0 (nm.size - 1)) (by omega)
                        have CB : Hid (canB s l r = true) := by show _ = _; rw [cB, decide_eq_true (by omega)]
                        have EN : Hid (fbN s l r = nm.extract 0 (nm.size - 1)) := eN
                        clear cB eN xs
                        go_wp2_with (first
                          | (go_at_call 21; go_must (refine (hop21 nm hnz _).mono ?_; rintro e w' ⟨rfl, rfl⟩; rw [OK.out]))
                          | (go_at_call 11; go_must (refine (has_two nm _ _ _ H46.out H91.out (by decide) hnz _).mono ?_; rintro e w' ⟨rfl, rfl⟩; first | rw [if_pos rfl] | rw [if_neg (by decide)])))
                        go_meet
                        exact ⟨by rw [CB.out], BV.out, nm.extract 0 (nm.size - 1), domain, rfl, fun _ => ⟨EN.out.symm, EK.out.symm⟩⟩
                      · have d2 := is_empty (nm.extract 0 (nm.size - 1)) (by omega)
                        have CB : Hid (canB s l r = false) := by show _ = _; rw [cB, decide_eq_false (by omega)]
                        clear cB eN xs
                        go_wp2_with (first
                          | (go_at_call 21; go_must (refine (hop21 nm hnz _).mono ?_; rintro e w' ⟨rfl, rfl⟩; rw [OK.out]))
                          | (go_at_call 11; go_must (refine (has_two nm _ _ _ H46.out H91.out (by decide) hnz _).mono ?_; rintro e w' ⟨rfl, rfl⟩; first | rw [if_pos rfl] | rw [if_neg (by decide)])))
                        go_meet
                        exact ⟨by rw [CB.out], BV.out, ⟨#[]⟩, ⟨#[]⟩, rfl, fun h => by rw [CB.out] at h; exact absurd h (by simp)⟩
                    · have d1 : ((nm[nm.size - 1].toNat : Int) == 46) = false := by
                        rw [beq_eq_false_iff_ne]
                        intro h'
                        exact hd (byte_is (n := 46) (by decide) (beq_iff_eq.2 h'))
                      have tr := trim_nodot nm n0 hd
                      rw [tr] at cB eN
                      have d2 := ne_empty nm n0
                      have CB : Hid (canB s l r = true) := by show _ = _; rw [cB, decide_eq_true n0]
                      have EN : Hid (fbN s l r = nm) := eN
                      clear hd tr cB eN
                      go_wp2_with (first
                        | (go_at_call 21; go_must (refine (hop21 nm hnz _).mono ?_; rintro e w' ⟨rfl, rfl⟩; rw [OK.out]))
                        | (go_at_call 11; go_must (refine (has_two nm _ _ _ H46.out H91.out (by decide) hnz _).mono ?_; rintro e w' ⟨rfl, rfl⟩; first | rw [if_pos rfl] | rw [if_neg (by decide)])))
                      go_meet
                      exact ⟨by rw [CB.out], BV.out, nm, domain, rfl, fun _ => ⟨EN.out.symm, EK.out.symm⟩⟩
                  | false =>
                    have H46 : Hid (has nm.data.toList 46 = false) := h46
                    have H91 : Hid (has nm.data.toList 91 = false) := h91
                    have EK : Hid (fbK s l r = uucp) := by show _ = _; rw [eK]; unfold kindOf; rw [h46, h91]; rfl
                    clear h46 h91 eK
                    by_cases hd : nm[nm.size - 1] = 46
                    · have d1 : (nm[nm.size - 1].toNat : Int) = 46 := by rw [hd]; rfl
                      have tr := trim_dot nm n0 hd
                      rw [tr] at cB eN
                      have xs : (nm.extract 0 (nm.size - 1)).size = nm.size - 1 := by rw [ByteArray.size_extract]; omega
                      clear hd tr
                      by_cases n1 : 1 < nm.size
                      · have d2 := ne_empty (nm.extract 0 (nm.size - 1)) (by omega)
                        have CB : Hid (canB s l r = true) := by show _ = _; rw [cB, decide_eq_true (by omega)]
                        have EN : Hid (fbN s l r = nm.extract 0 (nm.size - 1)) := eN
                        clear cB eN xs
                        go_wp2_with (first
                          | (go_at_call 21; go_must (refine (hop21 nm hnz _).mono ?_; rintro e w' ⟨rfl, rfl⟩; rw [OK.out]))
                          | (go_at_call 11; go_must (refine (has_two nm _ _ _ H46.out H91.out (by decide) hnz _).mono ?_; rintro e w' ⟨rfl, rfl⟩; first | rw [if_pos rfl] | rw [if_neg (by decide)])))
                        go_meet
                        exact ⟨by rw [CB.out], BV.out, nm.extract 0 (nm.size - 1), uucp, rfl, fun _ => ⟨EN.out.symm, EK.out.symm⟩⟩
                      · have d2 := is_empty (nm.extract 0 (nm.size - 1)) (by omega)
                        have CB : Hid (canB s l r = false) := by show _ = _; rw [cB, decide_eq_false (by omega)]
                        clear cB eN xs
                        go_wp2_with (first
                          | (go_at_call 21; go_must (refine (hop21 nm hnz _).mono ?_; rintro e w' ⟨rfl, rfl⟩; rw [OK.out]))
                          | (go_at_call 11; go_must (refine (has_two nm _ _ _ H46.out H91.out (by decide) hnz _).mono ?_; rintro e w' ⟨rfl, rfl⟩; first | rw [if_pos rfl] | rw [if_neg (by decide)])))
                        go_meet
                        exact ⟨by rw [CB.out], BV.out, ⟨#[]⟩, ⟨#[]⟩, rfl, fun h => by rw [CB.out] at h; exact absurd h (by simp)⟩
                    · have d1 : ((nm[nm.size - 1].toNat : Int) == 46) = false := by
                        rw [beq_eq_false_iff_ne]
                        intro h'
                        exact hd (byte_is (n := 46) (by decide) (beq_iff_eq.2 h'))
                      have tr := trim_nodot nm n0 hd
                      rw [tr] at cB eN
                      have d2 := ne_empty nm n0
                      have CB : Hid (canB s l r = true) := by show _ = _; rw [cB, decide_eq_true n0]
                      have EN : Hid (fbN s l r = nm) := eN
                      clear hd tr cB eN
                      go_wp2_with (first
                        | (go_at_call 21; go_must (refine (hop21 nm hnz _).mono ?_; rintro e w' ⟨rfl, rfl⟩; rw [OK.out]))
                        | (go_at_call 11; go_must (refine (has_two nm _ _ _ H46.out H91.out (by decide) hnz _).mono ?_; rintro e w' ⟨rfl, rfl⟩; first | rw [if_pos rfl] | rw [if_neg (by decide)])))
                      go_meet
                      exact ⟨by rw [CB.out], BV.out, nm, uucp, rfl, fun _ => ⟨EN.out.symm, EK.out.symm⟩⟩
          case rest =>
            obtain ⟨rfl, rfl, bn, bk, rfl, BO⟩ := hcut
            go_upto_block 4 with fail
            go_cut [15, 16] (fun p _ wx => wx = wr.alloc (.cells #[.string bn, .string bk] 34) ∧ p = .int .i64 (lpI s l r))
            case first =>
              go_wp2_with fail
              go_loopg [15, 16] (r - l) (fun g p i wx => wx = wr.alloc (.cells #[.string bn, .string bk] 34) ∧ p = .int .i64 (-1) ∧ ∃ k : Nat, l ≤ k ∧ k ≤ r ∧ g = k - l ∧ i = .int .i64 ((k : Int) - 1) ∧ Hid (lpO s l r = lpO s l k))
              case atStart => exact ⟨rfl, rfl, r, by omega, by omega, rfl, by go_num, rfl⟩
              case round =>
                obtain ⟨rfl, rfl, k, k1, k2, rfl, rfl, H⟩ := hrel
                by_cases hk : k ≤ l
                · have EP : Hid (lpI s l r = -1) := (lp_none (H.out.trans (lpO_below s l k hk))).1
                  go_wp2
                  go_meet
                  exact ⟨rfl, by rw [EP.out]⟩
                · obtain ⟨m, rfl⟩ : ∃ m, k = m + 1 := ⟨k - 1, by omega⟩
                  have hml : l ≤ m := by omega
                  have hms : m < s.size := by omega
                  have em : (((m + 1 : Nat) : Int) - 1) = (m : Int) := by omega
                  rw [em]
                  clear em
                  cases hsg : sing s m with
                  | true =>
                    have SG : Hid (sing s m = true) := hsg
                    have EP : Hid (lpI s l r = m) := (lp_some (H.out.trans (lpO_hit s l m hml hsg))).1
                    clear hsg
                    go_wp2_with (go_at_call 22; go_must (refine (sing22 s m hms (by omega) _).mono ?_; rintro e w' ⟨rfl, rfl⟩; rw [SG.out]))
                    go_meet
                    exact ⟨rfl, by rw [EP.out]⟩
                  | false =>
                    have SG : Hid (sing s m = false) := hsg
                    have H2 : Hid (lpO s l r = lpO s l m) := H.out.trans (lpO_miss s l m hml hsg)
                    clear hsg
                    go_wp2_with (go_at_call 22; go_must (refine (sing22 s m hms (by omega) _).mono ?_; rintro e w' ⟨rfl, rfl⟩; rw [SG.out]))
                    go_roundg (m - l)
                    case measure => omega
                    case rel => exact ⟨rfl, rfl, m, by omega, by omega, rfl, by go_num, H2⟩
            case rest =>
              obtain ⟨rfl, rfl⟩ := hcut
              go_upto_region 29 with fail
              go_cut [15, 17] (fun pV c wx => wx = wr.alloc (.cells #[.string bn, .string bk] 34) ∧ pV = .int .i64 (lpI s l r) ∧ c = .bool (canP s l r))
              case first =>
                cases hp : lpO s l r with
                | none =>
                  have EP : Hid (lpI s l r = -1) := (lp_none hp).1
                  have CP : Hid (canP s l r = false) := canP_none hp
                  clear hp
                  rw [EP.out]
                  go_wp2_with fail
                  go_meet
                  exact ⟨rfl, by rw [EP.out], by rw [CP.out]⟩
                | some i =>
                  have EP : Hid (lpI s l r = i) := (lp_some hp).1
                  have CP := canP_of hp
                  have ir := lpO_range s l r i hp
                  obtain ⟨i1, i2⟩ := ir
                  clear hp
                  rw [EP.out]
                  by_cases li : l < i
                  · cases hok : hopOK (s.extract (i + 1) r).data.toList with
                    | true =>
                      have OK : Hid (hopOK (s.extract (i + 1) r).data.toList = true) := hok
                      have C2 : Hid (canP s l r = true) := by show _ = _; rw [CP, hok, decide_eq_true li]; rfl
                      clear CP hok
                      go_wp2_with (go_at_call 21; go_must (refine (hop21 (s.extract (i + 1) r) (by rw [ByteArray.size_extract]; omega) _).mono ?_; rintro e w' ⟨rfl, rfl⟩; rw [OK.out]))
                      go_meet
                      exact ⟨rfl, by rw [EP.out], by rw [C2.out]⟩
                    | false =>
                      have OK : Hid (hopOK (s.extract (i + 1) r).data.toList = false) := hok
                      have C2 : Hid (canP s l r = false) := by show _ = _; rw [CP, hok, Bool.and_false]
                      clear CP hok
                      go_wp2_with (go_at_call 21; go_must (refine (hop21 (s.extract (i + 1) r) (by rw [ByteArray.size_extract]; omega) _).mono ?_; rintro e w' ⟨rfl, rfl⟩; rw [OK.out]))
                      go_meet
                      exact ⟨rfl, by rw [EP.out], by rw [C2.out]⟩
                  · have C2 : Hid (canP s l r = false) := by show _ = _; rw [CP, decide_eq_false li]; rfl
                    clear CP
                    go_wp2_with fail
                    go_meet
                    exact ⟨rfl, by rw [EP.out], by rw [C2.out]⟩
              case rest =>
                obtain ⟨rfl, rfl, rfl⟩ := hcut
                have O1 : Hid (OwnH (wr.alloc (.cells #[.string bn, .string bk] 34)) w.heap.size _ out) := World.ownsRow.alloc HM.out.own _
                have B1 : Below w.heap.size w (wr.alloc (.cells #[.string bn, .string bk] 34)) := HM.out.bel.alloc (by omega) _
                have NE : Hid (_ ≠ some wr.heap.size) := own_not HM.out.own
                cases hcP : canP s l r with
                | true =>
                  cases pf with
                  | true =>
                    have HC : Hid ((canP s l r && (true || !canB s l r)) = true) := by show _ = _; rw [hcP]; rfl
                    obtain ⟨i, hiE, hi1, hi2⟩ := canP_range hcP
                    have LN : Hid (s.extract (i + 1) r = lpN s l r) := (canP_name hcP hiE).symm
                    have HI : Hid (lpI s l r = i) := hiE
                    rw [hiE]
                    clear hcP hiE
                    go_wp2_with (at_builtin; go_must (refine wpList_append_sep _ rfl (.tmp 100) (.tmp 107) 31 rfl w.heap.size 34 i0 _ 2 32 Try.underlying31 hi hz0 hz1 hz2 rfl (by decide) _ _ _ rfl (World.ownsRow.alloc O1.out _) ⟨wr.heap.size + 1, 0, none⟩ 1 1 [_, _] rfl rfl (two_new1 _ _ _ _ _) (two_cell _ _) (by decide) (by unfold maxLen; omega) (by omega) (by simp; omega) ?_; intro v' w3 hown' hgrow hk))
                    obtain ⟨S1, S2, _, _⟩ := own_hop (n := s.extract (i + 1) r) (k := domain) O1.out B1 (Nat.le_refl _) hown' hgrow hk (bb := wr.heap.size) (by simp) NE.out
                    rw [LN.out] at S1
                    have R2 := HM.out.stepP HC.out HI.out hi1 hi2 S1 S2
                    go_roundg (i - l)
                    case measure => omega
                    case rel => exact ⟨l, i, g, _, rfl, rfl, rfl, R2⟩
                  | false =>
                    cases hcB : canB s l r with
                    | true =>
                      have HC : Hid ((canP s l r && (false || !canB s l r)) = false) := by show _ = _; rw [hcP, hcB]; rfl
                      obtain ⟨b, hbE, hb1, hb2⟩ := canB_range hcB
                      have HI : Hid (fbI s l r = b) := hbE
                      have CB : Hid (canB s l r = true) := hcB
                      obtain ⟨e1, e2⟩ := BO.out hcB
                      have E1 : Hid (bn = fbN s l r) := e1
                      have E2 : Hid (bk = fbK s l r) := e2
                      rw [hbE]
                      clear hcB hbE e1 e2 hcP
                      go_wp2_with (at_builtin; go_must (refine wpList_append_sep _ rfl (.tmp 111) (.tmp 113) 31 rfl w.heap.size 34 i0 _ 2 32 Try.underlying31 hi hz0 hz1 hz2 rfl (by decide) _ _ _ rfl (World.ownsRow.alloc O1.out _) ⟨wr.heap.size + 1, 0, none⟩ 1 1 [_, _] rfl rfl (two_new1 _ _ _ _ _) (two_cell _ _) (by decide) (by unfold maxLen; omega) (by omega) (by simp; omega) ?_; intro v' w3 hown' hgrow hk))
                      obtain ⟨S1, S2, _, _⟩ := own_hop (n := bn) (k := bk) O1.out B1 (Nat.le_refl _) hown' hgrow hk (bb := wr.heap.size) (by simp) NE.out
                      rw [E1.out, E2.out] at S1
                      have R2 := HM.out.stepB HC.out CB.out HI.out hb1 hb2 S1 S2
                      go_roundg (r - (b + 1))
                      case measure => omega
                      case rel => exact ⟨b + 1, r, g, _, by go_num, rfl, rfl, R2⟩
                    | false =>
                      have HC : Hid ((canP s l r && (false || !canB s l r)) = true) := by show _ = _; rw [hcP, hcB]; rfl
                      obtain ⟨i, hiE, hi1, hi2⟩ := canP_range hcP
                      have LN : Hid (s.extract (i + 1) r = lpN s l r) := (canP_name hcP hiE).symm
                      have HI : Hid (lpI s l r = i) := hiE
                      rw [hiE]
                      clear hcP hiE hcB
                      go_wp2_with (at_builtin; go_must (refine wpList_append_sep _ rfl (.tmp 100) (.tmp 107) 31 rfl w.heap.size 34 i0 _ 2 32 Try.underlying31 hi hz0 hz1 hz2 rfl (by decide) _ _ _ rfl (World.ownsRow.alloc O1.out _) ⟨wr.heap.size + 1, 0, none⟩ 1 1 [_, _] rfl rfl (two_new1 _ _ _ _ _) (two_cell _ _) (by decide) (by unfold maxLen; omega) (by omega) (by simp; omega) ?_; intro v' w3 hown' hgrow hk))
                      obtain ⟨S1, S2, _, _⟩ := own_hop (n := s.extract (i + 1) r) (k := domain) O1.out B1 (Nat.le_refl _) hown' hgrow hk (bb := wr.heap.size) (by simp) NE.out
                      rw [LN.out] at S1
                      have R2 := HM.out.stepP HC.out HI.out hi1 hi2 S1 S2
                      go_roundg (i - l)
                      case measure => omega
                      case rel => exact ⟨l, i, g, _, rfl, rfl, rfl, R2⟩
                | false =>
                  have HC : Hid ((canP s l r && (pf || !canB s l r)) = false) := by show _ = _; rw [hcP]; rfl
                  cases hcB : canB s l r with
                  | true =>
                    obtain ⟨b, hbE, hb1, hb2⟩ := canB_range hcB
                    have HI : Hid (fbI s l r = b) := hbE
                    have CB : Hid (canB s l r = true) := hcB
                    obtain ⟨e1, e2⟩ := BO.out hcB
                    have E1 : Hid (bn = fbN s l r) := e1
                    have E2 : Hid (bk = fbK s l r) := e2
                    rw [hbE]
                    clear hcB hbE e1 e2 hcP
                    go_wp2_with (at_builtin; go_must (refine wpList_append_sep _ rfl (.tmp 111) (.tmp 113) 31 rfl w.heap.size 34 i0 _ 2 32 Try.underlying31 hi hz0 hz1 hz2 rfl (by decide) _ _ _ rfl (World.ownsRow.alloc O1.out _) ⟨wr.heap.size + 1, 0, none⟩ 1 1 [_, _] rfl rfl (two_new1 _ _ _ _ _) (two_cell _ _) (by decide) (by unfold maxLen; omega) (by omega) (by simp; omega) ?_; intro v' w3 hown' hgrow hk))
                    obtain ⟨S1, S2, _, _⟩ := own_hop (n := bn) (k := bk) O1.out B1 (Nat.le_refl _) hown' hgrow hk (bb := wr.heap.size) (by simp) NE.out
                    rw [E1.out, E2.out] at S1
                    have R2 := HM.out.stepB HC.out CB.out HI.out hb1 hb2 S1 S2
                    go_roundg (r - (b + 1))
                    case measure => omega
                    case rel => exact ⟨b + 1, r, g, _, by go_num, rfl, rfl, R2⟩
                  | false =>
                    obtain ⟨f1, f2⟩ := HM.out.stop HC.out hcB
                    have F1 : Hid (leftB s pf = s.extract l r) := f1
                    have F2 : Hid (hopsB s pf = out) := f2
                    have s1 : (0 : Int) ≤ (l : Int) := by omega
                    have s2 : (l : Int) ≤ (r : Int) := by omega
                    have s3 : (r : Int) ≤ (s.size : Int) := by omega
                    clear f1 f2 hcB hcP
                    go_wp2
                    go_region
                    all_goals (try go_wp2)
                    all_goals go_ret2
                    all_goals exact ⟨_, by rw [F1.out]; rfl, by rw [F2.out]; exact O1.out, B1.drew⟩
    · obtain ⟨n1, n2⟩ := stop_end s pf l r hlr
      obtain ⟨f1, f2⟩ := HM.out.stop n1 n2
      have F1 : Hid (leftB s pf = s.extract l r) := f1
      have F2 : Hid (hopsB s pf = out) := f2
      have s1 : (0 : Int) ≤ (l : Int) := by omega
      have s2 : (l : Int) ≤ (r : Int) := by omega
      have s3 : (r : Int) ≤ (s.size : Int) := by omega
      clear f1 f2 n1 n2
      go_wp2
      go_region
      all_goals (try go_wp2)
      all_goals go_ret2
      all_goals exact ⟨_, by rw [F1.out]; rfl, by rw [F2.out]; exact HM.out.own, HM.out.bel.drew⟩
end Go.Proofs.Qxb6002905a
