/-
  THE WALKS OF unquote, unquoteWords, ZZUnquoteWords.
-/
import Derived.Test.Qxb6002905aBldr
import Derived.Lib.IndexLaws
namespace Go.Proofs.Qxb6002905a
open Go.RowKit
set_option linter.unusedVariables false

/-- block B is a builder of the call's own that holds the bytes l -/
def Bld (B : Nat) (l : List UInt8) (w : World) : Prop := Lib.IsBuilder 45 5 B B (Lib.byteCells l) w
theorem Bld.lt {B : Nat} {l : List UInt8} {w : World} (h : Bld B l w) : B < w.heap.size := by
  rcases h with h | h
  · exact h.lt
  · exact h.lt
theorem grow_call (n : Nat) (w : World) (hn : n ≤ 281474976710656) :
    Calls Try.prog 26 #[.pointer (some ⟨w.heap.size, 0, none⟩), .int .i64 n] (w.alloc (.cells #[.pointer none, .slice none 0 0] 45)) fun e w' => e = .returned (.tuple #[]) ∧ Bld w.heap.size [] w' ∧ Below w.heap.size w w' := by
  refine (Try.Builder_Grow_fresh w.heap.size w.heap.size n _ (Nat.le_refl _) (heap_alloc_new w _) (by simp) hn).mono ?_
  rintro e w' ⟨rfl, h1, h2⟩
  exact ⟨rfl, Or.inr h1, ((Below.refl _ w).alloc (Nat.le_refl _) _).trans h2⟩
theorem wb_call (B : Nat) (l : List UInt8) (c : UInt8) (w : World) (h : Bld B l w) (hl : l.length ≤ 8388608) :
    Calls Try.prog 27 #[.pointer (some ⟨B, 0, none⟩), .int .u8 c.toNat] w fun e w' => e = .returned .nilIface ∧ Bld B (l ++ [c]) w' ∧ Below B w w' := by
  refine (writeByte_any B B (Lib.byteCells l) c.toNat w h (by rw [Lib.byteCells_length]; omega) (Nat.le_of_lt h.lt)).mono ?_
  rintro e w' ⟨rfl, h1, h2⟩
  refine ⟨rfl, Or.inr ?_, h2⟩
  rw [← bc_snoc]
  exact h1
theorem ws_call (B : Nat) (l : List UInt8) (s : ByteArray) (w : World) (h : Bld B l w) (hl : l.length + s.size ≤ 8388608) :
    Calls Try.prog 28 #[.pointer (some ⟨B, 0, none⟩), .string s] w fun e w' => e = .returned (.tuple #[.int .i64 s.size, .nilIface]) ∧ Bld B (l ++ s.data.toList) w' ∧ Below B w w' := by
  refine (writeString_any B B (Lib.byteCells l) s w h (by rw [Lib.byteCells_length]; omega) (Nat.le_of_lt h.lt)).mono ?_
  rintro e w' ⟨rfl, h1, h2⟩
  refine ⟨rfl, Or.inr ?_, h2⟩
  have : Lib.byteCells (l ++ s.data.toList) = Lib.byteCells l ++ Lib.strCells s := by simp [Lib.byteCells, Lib.strCells]
  rw [this]
  exact h1
theorem str_call (B : Nat) (l : List UInt8) (w : World) (h : Bld B l w) :
    Calls Try.prog 29 #[.pointer (some ⟨B, 0, none⟩)] w fun e w' => e = .returned (.string ⟨l.toArray⟩) ∧ Below B w w' :=
  Try.Builder_String_any B B l w h (Nat.le_of_lt h.lt)

theorem ownsRow_below {w w' : World} {B : Nat} {v : Value} {n : Nat} {xs : List Value} {e : TypeId} {z : Nat} (h : w.ownsRow B e z v n xs) (hb : Below w.heap.size w w') : w'.ownsRow B e z v n xs := by
  refine ⟨h.1, ?_⟩
  rcases h.2 with h' | ⟨g, cap, cur, hv, hg, hc, r⟩
  · exact Or.inl h'
  · refine Or.inr ⟨g, cap, cur, hv, hg, ?_, r⟩
    rw [hb.block g ?_]
    · exact hc
    · rcases Nat.lt_or_ge g w.heap.size with h' | h'
      · exact h'
      · simp [Array.getElem?_eq_none h'] at hc
theorem BuilderAt_below {w w' : World} {B b : Nat} {p : Value} {bs : List Value} (h : Lib.BuilderAt 45 5 B b p bs w) (hb : Below w.heap.size w w') : Lib.BuilderAt 45 5 B b p bs w' := by
  have hlt := h.lt
  obtain ⟨h1, v, h2, h3, h4⟩ := h
  exact ⟨h1, v, by rw [hb.block b hlt]; exact h2, ownsRow_below h3 hb, h4⟩
theorem Bld.below {B : Nat} {l : List UInt8} {w w' : World} (h : Bld B l w) (hb : Below w.heap.size w w') : Bld B l w' := by
  rcases h with h | h
  · exact Or.inl (BuilderAt_below h hb)
  · exact Or.inr (BuilderAt_below h hb)
theorem byte_ne_is {b : UInt8} {n : Nat} (hn : n < 256) (h : ((b.toNat : Int) != (n : Int)) = false) : b = UInt8.ofNat n :=
  byte_is hn (by simpa [bne] using h)
theorem byte_ne_not {b : UInt8} {n : Nat} (hn : n < 256) (h : ((b.toNat : Int) != (n : Int)) = true) : b ≠ UInt8.ofNat n :=
  byte_not hn (by simpa [bne] using h)

/-! ### unquote -/
theorem idx_yes (s : ByteArray) (c : UInt8) (h : c ∈ s.data.toList) : 0 ≤ Lib.indexByte s.data.toList c := by
  have h1 := Lib.indexByte_ge s.data.toList c
  rcases Int.lt_or_le (Lib.indexByte s.data.toList c) 0 with h2 | h2
  · have h3 : Lib.indexByte s.data.toList c = -1 := by omega
    obtain ⟨k, hk, hk2⟩ := List.getElem_of_mem h
    exact absurd (by rw [List.getElem?_eq_getElem hk, hk2]) (Lib.indexByte_none h3 k)
  · exact h2
theorem idx_no (s : ByteArray) (c : UInt8) (h : c ∉ s.data.toList) : Lib.indexByte s.data.toList c < 0 := by
  rcases Int.lt_or_le (Lib.indexByte s.data.toList c) 0 with h2 | h2
  · exact h2
  · have h3 : Lib.indexByte s.data.toList c = ((Lib.indexByte s.data.toList c).toNat : Nat) := by omega
    exact absurd (List.mem_of_getElem? (Lib.indexByte_some h3).1) h
theorem idx_call (s : ByteArray) (c : Int) (w : World) :
    Calls Try.prog 23 #[.string s, .int .u8 c] w fun e w' => e = .returned (.int .i64 (Lib.indexByte s.data.toList c.toNat.toUInt8)) ∧ w = w' := by
  refine (Try.strings_IndexByte s c w).mono ?_
  rintro e w' ⟨rfl, rfl⟩
  exact ⟨rfl, rfl⟩

/-- what is left to unquote from place k on, 'out' written so far -/
def unqAt (q : ByteArray) (k : Nat) (out : List UInt8) : Option (List UInt8) := (Unq.unq (q.data.toList.drop k)).map (out ++ ·)
theorem unqAt_start (q : ByteArray) (r : List UInt8) (h : Unq.unq q.data.toList = some r) : unqAt q 0 [] = some r := by
  unfold unqAt; rw [List.drop_zero, h]; rfl
theorem unqAt_bs (q : ByteArray) (k : Nat) (out r : List UInt8) (h : k < q.size) (e : q[k] = 92) (hu : unqAt q k out = some r) : ∃ h2 : k + 1 < q.size, unqAt q (k + 2) (out ++ [q[k + 1]]) = some r := by
  unfold unqAt at hu ⊢
  by_cases h2 : k + 1 < q.size
  · refine ⟨h2, ?_⟩
    rw [drop_at q k h, e, drop_at q (k + 1) h2, Unq.unq_bs, map_snoc] at hu
    exact hu
  · rw [drop_at q k h, e, drop_past q (k + 1) (by omega), Unq.unq_bs1] at hu
    exact absurd hu (by simp)
theorem unqAt_lit (q : ByteArray) (k : Nat) (out r : List UInt8) (h : k < q.size) (e : q[k] ≠ 92) (hu : unqAt q k out = some r) : unqAt q (k + 1) (out ++ [q[k]]) = some r := by
  unfold unqAt at hu ⊢
  rw [drop_at q k h, Unq.unq_lit _ _ e, map_snoc] at hu
  exact hu
theorem unqAt_end (q : ByteArray) (k : Nat) (out r : List UInt8) (h : q.size ≤ k) (hu : unqAt q k out = some r) : out = r := by
  unfold unqAt at hu
  rw [drop_past q k h, Unq.unq_nil] at hu
  simpa using hu

set_option maxHeartbeats 1000000 in
theorem unquote_any (q : ByteArray) (r : List UInt8) (hq : q.size ≤ 4194304) (hu : Unq.unq q.data.toList = some r) (w : World) :
    Calls Try.prog 25 #[.string q] w fun e w' => e = .returned (.string ⟨r.toArray⟩) ∧ Below w.heap.size w w' := by
  by_cases h92 : (92 : UInt8) ∈ q.data.toList
  · have hi := idx_yes q 92 h92
    have HU : Hid (unqAt q 0 [] = some r) := unqAt_start q r hu
    clear hu h92
    go_enter Try.func25, Try.ntmps25
    go_wp2_with (first
      | (go_at_call 23; refine (idx_call _ 92 _).mono ?_; rintro e w' ⟨rfl, rfl⟩)
      | (go_at_call 26; go_must (refine (grow_call q.size w (by omega)).mono ?_; rintro e w1 ⟨rfl, hB1, hb1⟩)))
    go_loopw [4] (fun i wr => ∃ (k : Nat) (out : List UInt8), k ≤ q.size ∧ i = .int .i64 k ∧ Bld w.heap.size out wr ∧ out.length ≤ k ∧ Below w.heap.size w wr ∧ Hid (unqAt q k out = some r)) (fun i _ => q.size - (intOf i).toNat)
    case atStart => exact ⟨0, [], Nat.zero_le _, rfl, hB1, Nat.le_refl _, hb1, HU⟩
    case round =>
      clear HU hB1 hb1 hi
      obtain ⟨k, out, hk, rfl, hB, hle, hbel, H⟩ := hrel
      by_cases hlt : k < q.size
      · by_cases e : q[k] = 92
        · obtain ⟨h2, H2⟩ := unqAt_bs q k out r hlt e H.out
          have H3 : Hid (unqAt q (k + 2) (out ++ [q[k + 1]]) = some r) := H2
          clear H2 H
          have E : Hid (q[k] = 92) := e
          clear e
          go_wp2_with (go_at_call 27; refine (wb_call w.heap.size out _ _ hB (by omega)).mono ?_; rintro e w2 ⟨rfl, hB2, hb2⟩)
          · go_roundw
            case rel => exact ⟨k + 2, out ++ [q[k + 1]], by omega, by go_num, hB2, by simp; omega, hbel.trans hb2, H3⟩
            case measure => simp [intOf]; omega
          · exact absurd E.out (byte_not (n := 92) (by decide) (by assumption))
        · have H3 : Hid (unqAt q (k + 1) (out ++ [q[k]]) = some r) := unqAt_lit q k out r hlt e H.out
          have E : Hid (¬ q[k] = 92) := e
          clear e
          go_wp2_with (go_at_call 27; refine (wb_call w.heap.size out _ _ hB (by omega)).mono ?_; rintro e w2 ⟨rfl, hB2, hb2⟩)
          · exact absurd (byte_is (n := 92) (by decide) (by assumption)) E.out
          · exact absurd (byte_is (n := 92) (by decide) (by assumption)) E.out
          · go_roundw
            case rel => exact ⟨k + 1, out ++ [q[k]], by omega, by go_num, hB2, by simp; omega, hbel.trans hb2, H3⟩
            case measure => simp [intOf]; omega
      · have he : Hid (out = r) := unqAt_end q k out r (by omega) H.out
        go_wp2_with (go_at_call 29; refine (str_call w.heap.size out _ hB).mono ?_; rintro e w2 ⟨rfl, hb2⟩)
        go_ret
        exact ⟨by rw [← he.out]; rfl, hbel.trans hb2⟩
  · have hi := idx_no q 92 h92
    have hr : Hid (q = ⟨r.toArray⟩) := by
      have := Unq.unq_plain _ h92
      rw [hu, Option.some.injEq] at this
      rw [this]
      exact (Lib.mk_data q).symm
    clear hu h92
    go_enter Try.func25, Try.ntmps25
    go_wp2_with (go_at_call 23; refine (idx_call _ 92 _).mono ?_; rintro e w' ⟨rfl, rfl⟩)
    go_ret
    exact ⟨by rw [← hr.out]; rfl, Below.refl _ _⟩

/-! ### unquoteWords -/
/-- at a double quote outside quotes: where it closes, what it holds, what follows -/
theorem words_dq (s : ByteArray) (k : Nat) (out r : List UInt8) (h : k < s.size) (e : s[k] = 34) (hm : mdlAt s false k out = some r) :
    ∃ (t : Nat) (q : List UInt8), t < s.size ∧ k + 1 ≤ t ∧ closAt s (k + 1) = t ∧ Unq.unq (s.extract (k + 1) t).data.toList = some q ∧ q.length ≤ t - (k + 1) ∧ mdlAt s false (t + 1) (out ++ q) = some r := by
  unfold mdlAt at hm
  rw [drop_at s k h, e, Unq.mdl_f_dq, Option.map_eq_some_iff] at hm
  obtain ⟨r1, hm, rfl⟩ := hm
  obtain ⟨j, q, r', hj, _, hc, hu, hf, rfl⟩ := Unq.mdl_true _ _ _ (Nat.le_refl _) hm
  have hlen : s.data.toList.length = s.size := (Lib.size_eq s).symm
  rw [List.length_drop, hlen] at hj
  have hx : (s.extract (k + 1) (k + 1 + j)).data.toList = (s.data.toList.drop (k + 1)).take j := by
    rw [Lib.extract_data]
    congr 1
    omega
  refine ⟨k + 1 + j, q, by omega, by omega, closAt_some s (k + 1) j hc, by rw [hx]; exact hu, ?_, ?_⟩
  · have := Unq.unq_len _ _ _ (Nat.le_refl _) hu
    rw [List.length_take] at this
    omega
  · unfold mdlAt
    rw [List.drop_drop] at hf
    have e2 : k + 1 + j + 1 = k + 1 + (j + 1) := by omega
    rw [e2, hf]
    simp

theorem closing_call (s : ByteArray) (i : Nat) (hi : i < s.size) (hs : s.size ≤ 4194304) (w : World) :
    Calls Try.prog 24 #[.string s, .int .i64 i, .int .u8 34] w fun e w' => e = .returned (.int .i64 (closAt s (i + 1))) ∧ w = w' := by
  refine (closing_any s i hi hs w).mono ?_
  rintro e w' ⟨rfl, rfl⟩
  exact ⟨rfl, rfl⟩

/-- the one quoted string -/
theorem words_one (s : ByteArray) (r : List UInt8) (h : 0 < s.size) (e : s[0] = 34) (hm : mdlAt s false 0 [] = some r) (hc : (closAt s 1 == (s.size : Int) - 1) = true) : 2 ≤ s.size ∧ Unq.unq (s.extract 1 (s.size - 1)).data.toList = some r := by
  obtain ⟨t, q, h1, h2, h3, h4, _, h5⟩ := words_dq s 0 [] r h e hm
  have h6 := beq_iff_eq.1 hc
  have h3' : closAt s 1 = t := h3
  have ht : t = s.size - 1 := by omega
  rw [ht] at h4 h5 h2
  have hq : q = r := by
    rw [mdlAt_end s false _ _ (by omega)] at h5
    simpa using h5
  rw [← hq]
  exact ⟨by omega, h4⟩

set_option maxHeartbeats 2000000 in
theorem words_any (s : ByteArray) (r : List UInt8) (hs : s.size ≤ 2097152) (hm : Unq.mdl false s.data.toList = some r) (w : World) :
    Calls Try.prog 19 #[.string s] w fun e w' => e = .returned (.string ⟨r.toArray⟩) ∧ Below w.heap.size w w' := by
  by_cases h34 : (34 : UInt8) ∈ s.data.toList
  · have hi := idx_yes s 34 h34
    have h0 : 0 < s.size := by
      rw [Lib.size_eq]
      exact List.length_pos_of_mem h34
    have HM : Hid (mdlAt s false 0 [] = some r) := (mdlAt_start s).symm.trans hm
    clear hm h34
    go_enter Try.func19, Try.ntmps19
    go_wp2_with (first
      | (go_at_call 23; refine (idx_call _ 34 _).mono ?_; rintro e w' ⟨rfl, rfl⟩)
      | (go_at_call 24; go_must (refine (closing_call s 0 h0 (by omega) _).mono ?_; rintro e w' ⟨rfl, rfl⟩)))
    · have e0 : (s[0].toNat : Int) = 34 := by assumption
      have hc : (closAt s 1 == (s.size : Int) - 1) = true := by assumption
      have e : s[0] = 34 := byte_is (n := 34) (by decide) (beq_iff_eq.2 e0)
      obtain ⟨_, hu⟩ := words_one s r h0 e HM.out hc
      refine (unquote_any _ r (by simp; omega) hu w).mono ?_
      rintro e w1 ⟨rfl, hb1⟩
      go_wp2
      go_ret
      exact ⟨rfl, hb1⟩
    · have e0 : (s[0].toNat : Int) = 34 := by assumption
      have hc : (closAt s 1 == (s.size : Int) - 1) = true := by assumption
      have e : s[0] = 34 := byte_is (n := 34) (by decide) (beq_iff_eq.2 e0)
      obtain ⟨h2, hu⟩ := words_one s r h0 e HM.out hc
      exfalso
      omega
    all_goals
      refine (grow_call s.size w (by omega)).mono ?_
      rintro e w1 ⟨rfl, hB1, hb1⟩
      clear hi
      go_wp2_with fail
      go_loopw [4, 5] (fun i _ wr => ∃ (k : Nat) (out : List UInt8), k ≤ s.size ∧ i = .int .i64 k ∧ Bld w.heap.size out wr ∧ out.length ≤ k ∧ Below w.heap.size w wr ∧ Hid (mdlAt s false k out = some r)) (fun i _ _ => s.size - (intOf i).toNat)
      case atStart => exact ⟨0, [], Nat.zero_le _, rfl, hB1, Nat.le_refl _, hb1, HM⟩
      case round =>
        clear HM hB1 hb1
        obtain ⟨k, out, hk, rfl, hB, hle, hbel, H⟩ := hrel
        by_cases hlt : k < s.size
        · by_cases e : s[k] = 34
          · obtain ⟨t, q, h1, h2, h3, h4, h5, h6⟩ := words_dq s k out r hlt e H.out
            have h3' : Hid (closAt s (k + 1) = t) := h3
            have h6' : Hid (mdlAt s false (t + 1) (out ++ q) = some r) := h6
            have E : Hid (s[k] = 34) := e
            have h4' : Hid (Unq.unq (s.extract (k + 1) t).data.toList = some q) := h4
            clear e h3 h4 h6 H
            go_wp2_with (first
              | (go_at_call 24; go_must (refine (closing_call s k hlt (by omega) _).mono ?_; rintro e w' ⟨rfl, rfl⟩; rw [h3'.out])))
            · exact absurd E.out (byte_ne_not (n := 34) (by decide) (by assumption))
            · refine (unquote_any _ q (by simp; omega) h4'.out wr).mono ?_
              rintro e w2 ⟨rfl, hb2⟩
              have hB2 := hB.below hb2
              have hql : (⟨q.toArray⟩ : ByteArray).size = q.length := by simp [ByteArray.size]
              go_wp2_with (first | (go_at_call 28; go_must (refine (ws_call w.heap.size out ⟨q.toArray⟩ _ hB2 (by omega)).mono ?_; rintro e w3 ⟨rfl, hB3, hb3⟩)))
              go_roundw
              case rel => exact ⟨t + 1, out ++ q, by omega, by go_num, hB3, by simp; omega, (hbel.trans (hb2.mono hbel.size)).trans hb3, h6'⟩
              case measure => simp [intOf]; omega
          · have H3 : Hid (mdlAt s false (k + 1) (out ++ [s[k]]) = some r) := (mdlAt_f_lit s k out hlt e).symm.trans H.out
            have E : Hid (¬ s[k] = 34) := e
            clear e
            go_wp2_with (first | (go_at_call 27; refine (wb_call w.heap.size out _ _ hB (by omega)).mono ?_; rintro e w2 ⟨rfl, hB2, hb2⟩))
            · go_roundw
              case rel => exact ⟨k + 1, out ++ [s[k]], by omega, by go_num, hB2, by simp; omega, hbel.trans hb2, H3⟩
              case measure => simp [intOf]; omega
            · exact absurd (byte_ne_is (n := 34) (by decide) (by assumption)) E.out
        · have he : Hid (out = r) := by
            have := H.out
            rw [mdlAt_end s false k out (by omega)] at this
            show out = r
            simpa using this
          go_wp2_with (go_at_call 29; refine (str_call w.heap.size out _ hB).mono ?_; rintro e w2 ⟨rfl, hb2⟩)
          go_ret
          exact ⟨by rw [← he.out]; rfl, hbel.trans hb2⟩
  · have hi := idx_no s 34 h34
    have hr : Hid (s = ⟨r.toArray⟩) := by
      have := Unq.mdl_plain _ h34
      rw [hm, Option.some.injEq] at this
      rw [this]
      exact (Lib.mk_data s).symm
    clear hm h34
    go_enter Try.func19, Try.ntmps19
    go_wp2_with (go_at_call 23; refine (idx_call _ 34 _).mono ?_; rintro e w' ⟨rfl, rfl⟩)
    go_ret
    exact ⟨by rw [← hr.out]; rfl, Below.refl _ _⟩

set_option maxHeartbeats 400000 in
theorem zzwords_any (s : ByteArray) (r : List UInt8) (hs : s.size ≤ 2097152) (hm : Unq.mdl false s.data.toList = some r) (w : World) :
    Calls Try.prog 9 #[.string s] w fun e w' => e = .returned (.string ⟨r.toArray⟩) ∧ Below w.heap.size w w' := by
  go_enter Try.func9, Try.ntmps9
  go_wp2_with (go_at_call 19; refine (words_any s r hs hm _).mono ?_; rintro e w1 ⟨rfl, hb1⟩)
  go_ret
  exact ⟨rfl, hb1⟩

/-! ### FnUnquoteWordsModel -/
set_option maxHeartbeats 400000 in
theorem zz7 (a0 : ByteArray) (w : World) (hT : a0.size ≤ 1048576) :
    Calls Try.prog 7 #[.string a0] w fun e w' => e = .returned (.bool true) ∧ w = w' := by
  go_enter Try.func7, Try.ntmps7
  go_wp2
  go_ret
  exact ⟨rfl, rfl⟩

set_option maxHeartbeats 1000000 in
theorem walk3 (a0 : ByteArray) (w0 : a0.size ≤ maxLen) (w : World) :
    Calls Try.prog 3 #[.string a0] w fun e w' => e = .returned (.bool true) ∧ Below w.heap.size w w' := by
  by_cases hT : a0.size ≤ 1048576
  · clear w0
    cases hm : Unq.mdl false a0.data.toList with
    | none =>
      have hv : Hid (mdlV a0.data.toList = _) := mdlV_none hm
      clear hm
      go_enter Try.func3, Try.ntmps3
      go_wp2_with (first | (go_at_call 7; refine (zz7 _ _ hT).mono ?_; rintro e w' ⟨rfl, rfl⟩) | (go_at_call 8; go_must (refine (model_any a0 hT _).mono ?_; rintro e w1 ⟨rfl, hb1⟩; rw [hv.out])))
      go_ret
      exact ⟨rfl, hb1⟩
    | some r =>
      have hv : Hid (mdlV a0.data.toList = _) := mdlV_some hm
      have HM : Hid (Unq.mdl false a0.data.toList = some r) := hm
      clear hm
      go_enter Try.func3, Try.ntmps3
      go_wp2_with (first | (go_at_call 7; refine (zz7 _ _ hT).mono ?_; rintro e w' ⟨rfl, rfl⟩) | (go_at_call 8; go_must (refine (model_any a0 hT _).mono ?_; rintro e w1 ⟨rfl, hb1⟩; rw [hv.out])) | (go_at_call 9; go_must (refine (zzwords_any a0 r (by omega) HM.out _).mono ?_; rintro e w2 ⟨rfl, hb2⟩)))
      go_ret
      exact ⟨rfl, hb1.trans (hb2.mono hb1.size)⟩
  · unfold maxLen at w0
    go_enter Try.func3, Try.ntmps3
    go_wp2
    all_goals go_ret
    all_goals exact ⟨rfl, Below.refl _ _⟩

end Go.Proofs.Qxb6002905a
