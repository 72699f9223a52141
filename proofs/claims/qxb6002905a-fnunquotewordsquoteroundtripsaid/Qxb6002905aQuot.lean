/-
  THE WALK OF zzQuote: it computes 'Unq.quo', double quotes round it.
-/
import Derived.Test.Qxb6002905aModl
namespace Go.Proofs.Qxb6002905a
open Go.RowKit
set_option linter.unusedVariables false

theorem quo_append (a b : List UInt8) : Unq.quo (a ++ b) = Unq.quo a ++ Unq.quo b := by
  induction a with
  | nil => rfl
  | cons c t ih =>
    by_cases hc : c = 34 ∨ c = 92
    · simp only [List.cons_append, Unq.quo, if_pos hc, ih]
    · simp only [List.cons_append, Unq.quo, if_neg hc, ih]
theorem quo_len (a : List UInt8) : (Unq.quo a).length ≤ 2 * a.length := by
  induction a with
  | nil => simp [Unq.quo]
  | cons c t ih =>
    by_cases hc : c = 34 ∨ c = 92
    · simp only [Unq.quo, if_pos hc, List.length_cons]; omega
    · simp only [Unq.quo, if_neg hc, List.length_cons]; omega

/-- what is written after k bytes -/
def quoAt (s : ByteArray) (k : Nat) : List UInt8 := 34 :: Unq.quo (s.data.toList.take k)
theorem quoAt_len (s : ByteArray) (k : Nat) (h : k ≤ s.size) : (quoAt s k).length ≤ 2 * k + 1 := by
  unfold quoAt
  have := quo_len (s.data.toList.take k)
  rw [List.length_take] at this
  simp only [List.length_cons]
  omega
theorem quoAt_two (s : ByteArray) (k : Nat) (h : k < s.size) (e : s[k] = 34 ∨ s[k] = 92) : quoAt s (k + 1) = (quoAt s k ++ [92]) ++ [s[k]] := by
  unfold quoAt
  rw [take_at s k h, quo_append]
  simp only [Unq.quo, if_pos e]
  simp
theorem quoAt_one (s : ByteArray) (k : Nat) (h : k < s.size) (e : ¬ (s[k] = 34 ∨ s[k] = 92)) : quoAt s (k + 1) = quoAt s k ++ [s[k]] := by
  unfold quoAt
  rw [take_at s k h, quo_append]
  simp only [Unq.quo, if_neg e]
  simp
/-- the quoted text -/
def quoted (s : ByteArray) : List UInt8 := 34 :: (Unq.quo s.data.toList ++ [34])
theorem quoAt_end (s : ByteArray) (k : Nat) (h : s.size ≤ k) : quoAt s k ++ [34] = quoted s := by
  unfold quoAt quoted
  rw [List.take_of_length_le (by simpa using h)]
  rfl

set_option maxHeartbeats 1600000 in
theorem quote_any (s : ByteArray) (hs : s.size ≤ 262144) (w : World) :
    Calls Try.prog 12 #[.string s] w fun e w' => e = .returned (.string ⟨(quoted s).toArray⟩) ∧ Below w.heap.size w w' := by
  obtain ⟨i0, hi, hz0, hz1, hz2⟩ := info_parts info5
  go_enter Try.func12, Try.ntmps12
  go_wp2_with (first
    | (at_make; go_must (refine wpList_make_own _ rfl _ _ 39 rfl w.heap.size 5 i0 (.int .u8 0) 1 Try.underlying39 hi hz0 hz1 .i64 .i64 _ (2 * s.size + 2) rfl rfl (by omega) (by rw [hz2]; omega) (by unfold maxLen; omega) (Nat.le_refl _) ?_; intro w1 hown1 hg1; have hb1 : Below w.heap.size w w1 := (Below.refl _ _).grown hg1 (Nat.le_refl _) (by simp); have hz1' := hb1.size))
    | (at_builtin; go_must (refine wpList_append_own _ rfl (.tmp 10) (.tmp 11) 39 rfl w.heap.size 5 i0 (.int .u8 0) 1 1 Try.underlying39 hi hz0 hz1 hz2 rfl (by decide) _ _ _ rfl (World.ownsRow.alloc hown1 _) ⟨w1.heap.size, 0, none⟩ 1 1 [_] rfl rfl (cell_one_new _ _ _) (one_cell _) (by unfold maxLen; omega) (by omega) (by simp; omega) ?_; intro v2 w2 hown2 hgrow2 _)))
  obtain ⟨R1, R2⟩ := own_push (c := 34) (out := []) hown1 hb1 (Nat.le_refl _) hown2 hgrow2
  clear hown1 hown2 hgrow2 hg1 hb1 hz1'
  go_loopw [3, 4] (fun v i wr => ∃ (k : Nat), k ≤ s.size ∧ i = .int .i64 k ∧ OwnB wr w.heap.size v (quoAt s k) ∧ Below w.heap.size w wr) (fun _ i _ => s.size - (intOf i).toNat)
  case atStart => exact ⟨0, Nat.zero_le _, rfl, R1, R2⟩
  case round =>
    clear R1 R2
    obtain ⟨k, hk, rfl, hown, hbel⟩ := hrel
    have hsz := hbel.size
    have hln := quoAt_len s k hk
    by_cases hlt : k < s.size
    · go_wp2_with (first
        | (at_builtin; refine wpList_append_own _ rfl (.tmp 29) (.tmp 30) 39 rfl w.heap.size 5 i0 (.int .u8 0) 1 1 Try.underlying39 hi hz0 hz1 hz2 rfl (by decide) _ _ _ rfl (World.ownsRow.alloc hown _) ⟨wr.heap.size, 0, none⟩ 1 1 [_] rfl rfl (cell_one_new _ _ _) (one_cell _) (by unfold maxLen; omega) (by omega) (by simp; omega) ?_; intro v1 w3 hown3 hgrow3 _; obtain ⟨S1, S2⟩ := own_push (c := 92) hown hbel (Nat.le_refl _) hown3 hgrow3; have hsz3 := S2.size; clear hown3 hgrow3)
        | (at_builtin; refine wpList_append_own _ rfl (.tmp 32) (.tmp 36) 39 rfl w.heap.size 5 i0 (.int .u8 0) 1 1 Try.underlying39 hi hz0 hz1 hz2 rfl (by decide) _ _ _ rfl (World.ownsRow.alloc S1 _) ⟨w3.heap.size, 0, none⟩ 1 1 [_] rfl rfl (cell_one_new _ _ _) (one_cell _) (by unfold maxLen; simp; omega) (by simp; omega) (by simp; omega) ?_; intro v' w4 hown' hgrow _)
        | (at_builtin; refine wpList_append_own _ rfl (.tmp 32) (.tmp 36) 39 rfl w.heap.size 5 i0 (.int .u8 0) 1 1 Try.underlying39 hi hz0 hz1 hz2 rfl (by decide) _ _ _ rfl (World.ownsRow.alloc hown _) ⟨wr.heap.size, 0, none⟩ 1 1 [_] rfl rfl (cell_one_new _ _ _) (one_cell _) (by unfold maxLen; omega) (by omega) (by simp; omega) ?_; intro v' w4 hown' hgrow _))
      · have e0 : (s[k].toNat : Int) = 34 := by assumption
        have e34 : s[k] = 34 := byte_is (n := 34) (by decide) (beq_iff_eq.2 e0)
        have hq : quoAt s (k + 1) = (quoAt s k ++ [92]) ++ [34] := by rw [quoAt_two s k hlt (Or.inl e34), e34]
        have P := own_push (c := 34) S1 S2 (Nat.le_refl _) hown' hgrow
        rw [← hq] at P
        go_roundw
        case rel => exact ⟨k + 1, by omega, by go_num, P.1, P.2⟩
        case measure => simp [intOf]; omega
      · have e0 : ((s[k].toNat : Int) == 34) = true ∨ ((s[k].toNat : Int) == 92) = true := by assumption
        have e : s[k] = 34 ∨ s[k] = 92 := e0.elim (fun h => Or.inl (byte_is (n := 34) (by decide) h)) (fun h => Or.inr (byte_is (n := 92) (by decide) h))
        have hq := quoAt_two s k hlt e
        have P := own_push (c := s[k]) S1 S2 (Nat.le_refl _) hown' hgrow
        rw [← hq] at P
        go_roundw
        case rel => exact ⟨k + 1, by omega, by go_num, P.1, P.2⟩
        case measure => simp [intOf]; omega
      · have e0 : ((s[k].toNat : Int) == 34) = false ∧ ((s[k].toNat : Int) == 92) = false := by assumption
        have e : ¬ (s[k] = 34 ∨ s[k] = 92) := fun h => h.elim (byte_not (n := 34) (by decide) e0.1) (byte_not (n := 92) (by decide) e0.2)
        have hq := quoAt_one s k hlt e
        have P := own_push (c := s[k]) hown hbel (Nat.le_refl _) hown' hgrow
        rw [← hq] at P
        go_roundw
        case rel => exact ⟨k + 1, by omega, by go_num, P.1, P.2⟩
        case measure => simp [intOf]; omega
    · have he : Hid (quoAt s k ++ [34] = quoted s) := quoAt_end s k (by omega)
      go_wp2_with (at_builtin; go_must (refine wpList_append_own _ rfl (.tmp 38) (.tmp 39) 39 rfl w.heap.size 5 i0 (.int .u8 0) 1 1 Try.underlying39 hi hz0 hz1 hz2 rfl (by decide) _ _ _ rfl (World.ownsRow.alloc hown _) ⟨wr.heap.size, 0, none⟩ 1 1 [_] rfl rfl (cell_one_new _ _ _) (one_cell _) (by unfold maxLen; omega) (by omega) (by simp; omega) ?_; intro v' w4 hown' hgrow _; obtain ⟨S1, S2⟩ := own_push (c := 34) hown hbel (Nat.le_refl _) hown' hgrow; have hcv := conv_own S1; clear hown' hgrow))
      go_ret
      exact ⟨by rw [← he.out]; rfl, S2⟩
end Go.Proofs.Qxb6002905a
