/-
  THE WALK OF zzModelUnquoteWords: it computes 'Unq.mdl'.
-/
import Derived.Test.Qxb6002905aClos
import Derived.Shelf.Strings.Builder1
import Derived.Laws.IdiomStrings
import Derived.Deep.DeepMust
import Derived.Maps.AppendAt
import Derived.Laws.BytesArg
namespace Go.Proofs.Qxb6002905a
open Go.RowKit
set_option linter.unusedVariables false

theorem info5 : (Try.prog.info? 5).map (fun i => (i.zero, i.size, i.bytes)) = some (some (.int .u8 0), 1, 1) := by kernel_rfl

/-- the value v owns the bytes l -/
def OwnB (w : World) (B : Nat) (v : Value) (l : List UInt8) : Prop := w.ownsRow B 5 1 v l.length (Lib.byteCells l)

theorem conv_own {w : World} {B : Nat} {v : Value} {l : List UInt8} (h : OwnB w B v l) : (convert 39 9 v).run Try.prog w = .ok (.string ⟨l.toArray⟩) w := by
  rcases h.2 with ⟨hv, h0⟩ | ⟨g, cap, cur, hv, _, hg, _, _, _, ht⟩
  · rw [hv, List.eq_nil_of_length_eq_zero h0]
    exact run_convert_bytes_nil w 39 5 Try.underlying39 Try.underlying5 0 0 9 Try.underlying9
  · rw [hv]
    refine run_convert_bytes_back w 39 9 5 ⟨g, 0, none⟩ cap l Try.underlying39 Try.underlying5 Try.underlying9 ?_
    intro j hj
    have h1 : w.ownsRow B 5 1 (.slice (some ⟨g, 0, none⟩) l.length cap) l.length (Lib.byteCells l) := hv ▸ h
    have := h1.cellAt j (by omega)
    have e : (⟨g, 0, none⟩ : Addr).add j = ⟨g, j, none⟩ := by unfold Addr.add; split <;> simp_all
    rw [e, this]
    simp [Lib.byteCells, hj]

theorem bc_snoc (l : List UInt8) (c : UInt8) : Lib.byteCells l ++ [.int .u8 c.toNat] = Lib.byteCells (l ++ [c]) := by simp [Lib.byteCells]

theorem own_push {w wr w1 : World} {B : Nat} {v v' : Value} {out : List UInt8} {c : UInt8} {o : Obj} (hown : OwnB wr B v out) (hbel : Below B w wr) (hB : B ≤ w.heap.size)
    (h : w1.ownsRow B 5 1 v' (out.length + 1) (Lib.byteCells out ++ [.int .u8 c.toNat])) (hg : (wr.alloc o).grownBy w1 v.ownBlock) : OwnB w1 B v' (out ++ [c]) ∧ Below B w w1 := by
  have hsz := hbel.size
  refine ⟨?_, ?_⟩
  · unfold OwnB
    rw [List.length_append, List.length_singleton, ← bc_snoc]
    exact h
  · refine (hbel.alloc (by omega) o).grown hg (by simp; omega) ?_
    intro k hk
    rcases hown.2 with ⟨hv, _⟩ | ⟨g, cap, cur, hv, hg', _⟩
    · rw [hv] at hk; simp [Value.ownBlock] at hk
    · rw [hv] at hk; simp [Value.ownBlock] at hk; omega

/-- what the machine gives from place k on, 'out' written so far -/
def mdlAt (s : ByteArray) (ins : Bool) (k : Nat) (out : List UInt8) : Option (List UInt8) := (Unq.mdl ins (s.data.toList.drop k)).map (out ++ ·)

theorem map_snoc (x : Option (List UInt8)) (c : UInt8) (out : List UInt8) : (x.map (c :: ·)).map (out ++ ·) = x.map ((out ++ [c]) ++ ·) := by
  cases x <;> simp
theorem mdlAt_f_dq (s : ByteArray) (k : Nat) (out : List UInt8) (h : k < s.size) (e : s[k] = 34) : mdlAt s false k out = mdlAt s true (k + 1) out := by
  unfold mdlAt; rw [drop_at s k h, e, Unq.mdl_f_dq]
theorem mdlAt_f_lit (s : ByteArray) (k : Nat) (out : List UInt8) (h : k < s.size) (e : s[k] ≠ 34) : mdlAt s false k out = mdlAt s false (k + 1) (out ++ [s[k]]) := by
  unfold mdlAt; rw [drop_at s k h, Unq.mdl_f_lit _ _ e, map_snoc]
theorem mdlAt_t_dq (s : ByteArray) (k : Nat) (out : List UInt8) (h : k < s.size) (e : s[k] = 34) : mdlAt s true k out = mdlAt s false (k + 1) out := by
  unfold mdlAt; rw [drop_at s k h, e, Unq.mdl_t_dq]
theorem mdlAt_t_lit (s : ByteArray) (k : Nat) (out : List UInt8) (h : k < s.size) (e1 : s[k] ≠ 34) (e2 : s[k] ≠ 92) : mdlAt s true k out = mdlAt s true (k + 1) (out ++ [s[k]]) := by
  unfold mdlAt; rw [drop_at s k h, Unq.mdl_t_lit _ _ e1 e2, map_snoc]
theorem mdlAt_t_bs (s : ByteArray) (k : Nat) (out : List UInt8) (h : k + 1 < s.size) (e : s[k] = 92) : mdlAt s true k out = mdlAt s true (k + 2) (out ++ [s[k + 1]]) := by
  unfold mdlAt; rw [drop_at s k (by omega), e, drop_at s (k + 1) h, Unq.mdl_t_bs, map_snoc]
theorem mdlAt_t_bs1 (s : ByteArray) (k : Nat) (out : List UInt8) (h : k < s.size) (h2 : s.size ≤ k + 1) (e : s[k] = 92) : mdlAt s true k out = none := by
  unfold mdlAt; rw [drop_at s k h, e, drop_past s (k + 1) h2, Unq.mdl_t_bs1]; rfl
theorem mdlAt_end (s : ByteArray) (ins : Bool) (k : Nat) (out : List UInt8) (h : s.size ≤ k) : mdlAt s ins k out = if ins then none else some out := by
  unfold mdlAt; rw [drop_past s k h]
  cases ins
  · rw [Unq.mdl_f_nil]; simp
  · rw [Unq.mdl_t_nil]; simp

theorem mdlAt_start (s : ByteArray) : Unq.mdl false s.data.toList = mdlAt s false 0 [] := by
  unfold mdlAt
  rw [List.drop_zero]
  cases Unq.mdl false s.data.toList <;> simp
theorem one_cell (c : Int) : ∀ u ∈ [Value.int .u8 c], u.oneCell' = true := by
  intro u hu
  rw [List.mem_singleton] at hu
  subst hu
  rfl

/-- what zzModelUnquoteWords hands back -/
def mdlV (l : List UInt8) : Value := match Unq.mdl false l with | some r => .tuple #[.string ⟨r.toArray⟩, .bool true] | none => .tuple #[.string ⟨#[]⟩, .bool false]
theorem mdlV_some {l r : List UInt8} (h : Unq.mdl false l = some r) : mdlV l = .tuple #[.string ⟨r.toArray⟩, .bool true] := by unfold mdlV; rw [h]
theorem mdlV_none {l : List UInt8} (h : Unq.mdl false l = none) : mdlV l = .tuple #[.string ⟨#[]⟩, .bool false] := by unfold mdlV; rw [h]

set_option maxHeartbeats 1600000 in
theorem model_any (s : ByteArray) (hs : s.size ≤ 1048576) (w : World) :
    Calls Try.prog 8 #[.string s] w fun e w' => e = .returned (mdlV s.data.toList) ∧ Below w.heap.size w w' := by
  obtain ⟨i0, hi, hz0, hz1, hz2⟩ := info_parts info5
  go_enter Try.func8, Try.ntmps8
  go_wp2_with (at_make; refine wpList_make_own _ rfl _ _ 39 rfl w.heap.size 5 i0 (.int .u8 0) 1 Try.underlying39 hi hz0 hz1 .i64 .i64 _ s.size rfl rfl rfl (by rw [hz2]; omega) (by unfold maxLen; omega) (Nat.le_refl _) ?_; intro w1 hown1 hg1)
  have hb1 : Below w.heap.size w w1 := (Below.refl _ _).grown hg1 (Nat.le_refl _) (by simp)
  go_loopw [4, 5, 6, 7] (fun v b i _ wr => ∃ (k : Nat) (ins : Bool) (out : List UInt8), k ≤ s.size ∧ i = .int .i64 k ∧ b = .bool ins ∧ OwnB wr w.heap.size v out ∧ out.length ≤ k ∧ Below w.heap.size w wr ∧ Hid (Unq.mdl false s.data.toList = mdlAt s ins k out)) (fun _ _ i _ _ => s.size - (intOf i).toNat)
  case atStart => exact ⟨0, false, [], Nat.zero_le _, rfl, rfl, hown1, Nat.le_refl _, hb1, mdlAt_start s⟩
  case round =>
    clear hown1 hg1 hb1
    obtain ⟨k, ins, out, hk, rfl, rfl, hown, hle, hbel, H⟩ := hrel
    have hsz := hbel.size
    by_cases hlt : k < s.size
    · cases ins
      · go_wp2_with (first | (at_builtin; go_must (refine wpList_append_own _ rfl _ _ 39 rfl w.heap.size 5 i0 (.int .u8 0) 1 1 Try.underlying39 hi hz0 hz1 hz2 rfl (by decide) _ _ _ rfl (World.ownsRow.alloc hown _) ⟨wr.heap.size, 0, none⟩ 1 1 [_] rfl rfl (cell_one_new _ _ _) (one_cell _) (by unfold maxLen; omega) (by omega) (by simp; omega) ?_; intro v' w1 hown' hgrow _)))
        · have e : s[k] = 34 := byte_is (n := 34) (by decide) (by assumption)
          have H2 := H.out.trans (mdlAt_f_dq s k out hlt e)
          go_roundw
          case rel => exact ⟨k + 1, true, out, by omega, by go_num, rfl, hown, by omega, hbel, H2⟩
          case measure => simp [intOf]; omega
        · have e : s[k] ≠ 34 := byte_not (n := 34) (by decide) (by assumption)
          have H2 := H.out.trans (mdlAt_f_lit s k out hlt e)
          obtain ⟨R1, R2⟩ := own_push hown hbel (Nat.le_refl _) hown' hgrow
          go_roundw
          case rel => exact ⟨k + 1, false, out ++ [s[k]], by omega, by go_num, rfl, R1, by simp; omega, R2, H2⟩
          case measure => simp [intOf]; omega
      · go_wp2_with (first | (at_builtin; go_must (refine wpList_append_own _ rfl _ _ 39 rfl w.heap.size 5 i0 (.int .u8 0) 1 1 Try.underlying39 hi hz0 hz1 hz2 rfl (by decide) _ _ _ rfl (World.ownsRow.alloc hown _) ⟨wr.heap.size, 0, none⟩ 1 1 [_] rfl rfl (cell_one_new _ _ _) (one_cell _) (by unfold maxLen; omega) (by omega) (by simp; omega) ?_; intro v' w1 hown' hgrow _)))
        · have e : s[k] = 34 := byte_is (n := 34) (by decide) (by assumption)
          have H2 := H.out.trans (mdlAt_t_dq s k out hlt e)
          go_roundw
          case rel => exact ⟨k + 1, false, out, by omega, by go_num, rfl, hown, by omega, hbel, H2⟩
          case measure => simp [intOf]; omega
        · have e : s[k] = 92 := byte_is (n := 92) (by decide) (by assumption)
          have H2 := H.out.trans (mdlAt_t_bs1 s k out hlt (by omega) e)
          have hv : Hid (mdlV s.data.toList = _) := mdlV_none H2
          go_ret2
          exact ⟨by rw [hv.out]; rfl, hbel⟩
        · have e : s[k] = 92 := byte_is (n := 92) (by decide) (by assumption)
          have h2 : k + 1 < s.size := by omega
          have H2 := H.out.trans (mdlAt_t_bs s k out h2 e)
          obtain ⟨R1, R2⟩ := own_push (c := s[k + 1]) hown hbel (Nat.le_refl _) hown' hgrow
          go_roundw
          case rel => exact ⟨k + 2, true, out ++ [s[k + 1]], by omega, by go_num, rfl, R1, by simp; omega, R2, H2⟩
          case measure => simp [intOf]; omega
        · have e1 : s[k] ≠ 34 := byte_not (n := 34) (by decide) (by assumption)
          have e2 : s[k] ≠ 92 := byte_not (n := 92) (by decide) (by assumption)
          have H2 := H.out.trans (mdlAt_t_lit s k out hlt e1 e2)
          obtain ⟨R1, R2⟩ := own_push (c := s[k]) hown hbel (Nat.le_refl _) hown' hgrow
          go_roundw
          case rel => exact ⟨k + 1, true, out ++ [s[k]], by omega, by go_num, rfl, R1, by simp; omega, R2, H2⟩
          case measure => simp [intOf]; omega
    · have H2 := H.out.trans (mdlAt_end s ins k out (by omega))
      have hcv := conv_own hown
      cases ins
      · have hv : Hid (mdlV s.data.toList = _) := mdlV_some (by simpa using H2)
        clear H H2
        go_wp2
        go_ret2
        exact ⟨by rw [hv.out]; rfl, hbel⟩
      · have hv : Hid (mdlV s.data.toList = _) := mdlV_none (by simpa using H2)
        clear H H2
        go_wp2
        go_ret2
        exact ⟨by rw [hv.out]; rfl, hbel⟩
end Go.Proofs.Qxb6002905a
