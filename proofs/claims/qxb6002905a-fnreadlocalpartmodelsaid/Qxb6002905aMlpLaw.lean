/-
  THE PLAIN SIDE OF zzModelLocalPart's WALK.
-/
import Derived.Test.Qxb6002905aRead
import Derived.Test.Qxb6002905aModl
namespace Go.Proofs.Qxb6002905a
open Go.RowKit
set_option linter.unusedVariables false

theorem drop_one {l : List UInt8} {k : Nat} {x : UInt8} (h : l[k]? = some x) : l.drop k = x :: l.drop (k + 1) := by
  obtain ⟨hk, e⟩ := List.getElem?_eq_some_iff.1 h
  rw [List.drop_eq_getElem_cons hk, e]
/-- a trailing dot is struck -/
theorem trim_dot (nm : ByteArray) (h0 : 0 < nm.size) (e : nm[nm.size - 1] = 46) : (⟨(Lib.trimSuffix nm.data.toList [46]).toArray⟩ : ByteArray) = nm.extract 0 (nm.size - 1) := by
  refine Lib.trimSuffix_hit nm ⟨#[46]⟩ h0 ?_
  rw [beq_iff_eq]
  have h1 : (nm.extract (nm.size - 1) nm.size).toList = (nm.extract (nm.size - 1) nm.size).data.toList := Lib.toList_data _
  have h2 : (⟨#[46]⟩ : ByteArray).toList = [46] := Lib.toList_data _
  show (nm.extract (nm.size - 1) nm.size).toList = _
  rw [h1, h2, Lib.extract_data]
  have h3 := list_at nm (nm.size - 1) (by omega)
  rw [e] at h3
  have h4 : nm.data.toList.drop (nm.size - 1) = [46] := by
    rw [drop_one h3, List.drop_of_length_le (by rw [size_list]; omega)]
  rw [h4]
  have h5 : nm.size - (nm.size - 1) = 1 := by omega
  rw [h5]
  rfl
theorem trim_nodot (nm : ByteArray) (h0 : 0 < nm.size) (e : nm[nm.size - 1] ≠ 46) : (⟨(Lib.trimSuffix nm.data.toList [46]).toArray⟩ : ByteArray) = nm := by
  refine Lib.trimSuffix_miss nm ⟨#[46]⟩ ?_
  rw [Bool.and_eq_false_iff]
  right
  rw [beq_eq_false_iff_ne]
  intro h
  have h1 : (nm.extract (nm.size - 1) nm.size).toList = (nm.extract (nm.size - 1) nm.size).data.toList := Lib.toList_data _
  have h2 : (⟨#[46]⟩ : ByteArray).toList = [46] := Lib.toList_data _
  have h' : (nm.extract (nm.size - 1) nm.size).toList = (⟨#[46]⟩ : ByteArray).toList := h
  rw [h1, h2, Lib.extract_data] at h'
  have h3 := list_at nm (nm.size - 1) (by omega)
  rw [drop_one h3, List.drop_of_length_le (by rw [size_list]; omega)] at h'
  have h5 : nm.size - (nm.size - 1) = 1 := by omega
  rw [h5] at h'
  simp at h'
  exact e h'
theorem hopOK_pos {nm : ByteArray} (h : hopOK nm.data.toList = true) : 0 < nm.size := by
  rcases Nat.lt_or_ge 0 nm.size with h0 | h0
  · exact h0
  · rw [hopOK_zero nm (by omega)] at h; exact absurd h (by simp)
theorem canP_of {s : ByteArray} {l r i : Nat} (h : lpO s l r = some i) : canP s l r = (decide (l < i) && hopOK (s.extract (i + 1) r).data.toList) := by
  unfold canP
  rw [(lp_some h).1, (lp_some h).2]
  cases hk : hopOK (s.extract (i + 1) r).data.toList with
  | true =>
    rw [if_pos rfl, decide_eq_true (hopOK_pos hk)]
    simp
  | false =>
    rw [if_neg (by simp), empty_size]
    simp
theorem canP_none {s : ByteArray} {l r : Nat} (h : lpO s l r = none) : canP s l r = false := by
  unfold canP; rw [(lp_none h).2, empty_size]; simp
theorem canP_name {s : ByteArray} {l r i : Nat} (h : canP s l r = true) (hi : lpI s l r = i) : lpN s l r = s.extract (i + 1) r := by
  cases h0 : lpO s l r with
  | none => rw [canP_none h0] at h; exact absurd h (by simp)
  | some j =>
    rw [(lp_some h0).1] at hi
    obtain rfl : j = i := by omega
    rw [canP_of h0, Bool.and_eq_true] at h
    rw [(lp_some h0).2, h.2]
    rfl
theorem canB_none {s : ByteArray} {l r : Nat} (h : bangO s l r = none) : canB s l r = false := by
  unfold canB; rw [(fb_none h).2.1, empty_size]; simp
theorem canB_late {s : ByteArray} {l r : Nat} (h : ¬ fbI s l r + 1 < r) : canB s l r = false := by
  unfold canB; rw [decide_eq_false h, Bool.and_false]
theorem canB_bad {s : ByteArray} {l r b : Nat} (h : bangO s l r = some b) (hk : hopOK (s.extract l b).data.toList = false) : canB s l r = false := by
  unfold canB; rw [(fb_some h).2.1]; unfold hopN; rw [hk, if_neg (by simp), empty_size]; simp
theorem canB_good {s : ByteArray} {l r b : Nat} (h : bangO s l r = some b) (hk : hopOK (s.extract l b).data.toList = true) (hb : b + 1 < r) :
    canB s l r = decide (0 < (⟨(Lib.trimSuffix (s.extract l b).data.toList [46]).toArray⟩ : ByteArray).size) ∧ fbN s l r = ⟨(Lib.trimSuffix (s.extract l b).data.toList [46]).toArray⟩ ∧ fbK s l r = kindOf (s.extract l b).data.toList := by
  have e : fbN s l r = ⟨(Lib.trimSuffix (s.extract l b).data.toList [46]).toArray⟩ := by rw [(fb_some h).2.1]; unfold hopN; rw [hk, if_pos rfl]
  refine ⟨?_, e, by rw [(fb_some h).2.2]; unfold hopK; rw [hk, if_pos rfl]⟩
  unfold canB
  rw [e, (fb_some h).1, decide_eq_true (p := ((b : Int) + 1 < (r : Int))) (by omega), Bool.and_true]

/-- what the loop holds -/
structure Models (s : ByteArray) (pf : Bool) (w wr : World) (B : Nat) (v : Value) (l r f : Nat) (out : List (ByteArray × ByteArray)) : Prop where
  hl : l ≤ r
  hr : r ≤ s.size
  own : OwnH wr B v out
  bel : Below B w wr
  fuel : r - l < f
  len : out.length + (r - l) ≤ s.size
  all : rd s pf (s.size + 1) 0 s.size = (out ++ (rd s pf f l r).1, (rd s pf f l r).2)
theorem Models.stepP {s : ByteArray} {pf : Bool} {w wr w3 : World} {B : Nat} {v v' : Value} {l r f i : Nat} {out : List (ByteArray × ByteArray)}
    (R : Models s pf w wr B v l r (f + 1) out) (hc : (canP s l r && (pf || !canB s l r)) = true) (hi : lpI s l r = i) (h1 : l < i) (h2 : i < r)
    (S1 : OwnH w3 B v' (out ++ [(lpN s l r, domain)])) (S2 : Below B w w3) :
    Models s pf w w3 B v' l i f (out ++ [(lpN s l r, domain)]) := by
  have g1 := R.hl; have g2 := R.hr; have g3 := R.fuel; have g4 := R.len
  refine ⟨by omega, by omega, S1, S2, by omega, by rw [List.length_append, List.length_singleton]; omega, ?_⟩
  rw [R.all, rd_P hc, hi, Int.toNat_natCast]
  simp
theorem Models.stepB {s : ByteArray} {pf : Bool} {w wr w3 : World} {B : Nat} {v v' : Value} {l r f b : Nat} {out : List (ByteArray × ByteArray)}
    (R : Models s pf w wr B v l r (f + 1) out) (hn : (canP s l r && (pf || !canB s l r)) = false) (hc : canB s l r = true) (hi : fbI s l r = b) (h1 : l ≤ b) (h2 : b + 1 < r)
    (S1 : OwnH w3 B v' (out ++ [(fbN s l r, fbK s l r)])) (S2 : Below B w w3) :
    Models s pf w w3 B v' (b + 1) r f (out ++ [(fbN s l r, fbK s l r)]) := by
  have g1 := R.hl; have g2 := R.hr; have g3 := R.fuel; have g4 := R.len
  refine ⟨by omega, by omega, S1, S2, by omega, by rw [List.length_append, List.length_singleton]; omega, ?_⟩
  rw [R.all, rd_B hn hc, hi, Int.toNat_natCast]
  simp
theorem Models.stop {s : ByteArray} {pf : Bool} {w wr : World} {B : Nat} {v : Value} {l r f : Nat} {out : List (ByteArray × ByteArray)}
    (R : Models s pf w wr B v l r (f + 1) out) (hn : (canP s l r && (pf || !canB s l r)) = false) (hc : canB s l r = false) : leftB s pf = s.extract l r ∧ hopsB s pf = out := by
  have h := R.all
  rw [rd_stop hn hc, List.append_nil] at h
  unfold leftB hopsB
  rw [h]
  exact ⟨rfl, rfl⟩
theorem stop_end (s : ByteArray) (pf : Bool) (l r : Nat) (h : ¬ l < r) : (canP s l r && (pf || !canB s l r)) = false ∧ canB s l r = false := by
  have h1 : canP s l r = false := by
    cases e : canP s l r with
    | false => rfl
    | true => obtain ⟨i, _, h2, h3⟩ := canP_range e; omega
  have h2 : canB s l r = false := by
    cases e : canB s l r with
    | false => rfl
    | true => obtain ⟨i, _, h2, h3⟩ := canB_range e; omega
  exact ⟨by rw [h1]; rfl, h2⟩
end Go.Proofs.Qxb6002905a
