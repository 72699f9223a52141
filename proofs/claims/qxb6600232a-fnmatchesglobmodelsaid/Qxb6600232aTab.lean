/-
  THE WALK OF matchB1Model: it computes 'modelR'.
-/
import Derived.Test.Qxb6600232aDp
import Derived.Laws.OwnMore
import Derived.OwnWalk
import Derived.RegionTactic
import Derived.Deep.DeepCutAuto
namespace Go.Proofs.Qxb6600232a
open Go.RowKit Go.Proofs.Qxb6600232a.Glob
set_option linter.unusedVariables false

theorem info4 : (Try.prog.info? 4).map (fun i => (i.zero, i.size, i.bytes)) = some (some (.bool false), 1, 1) := by kernel_rfl
theorem info_parts {i : Option TypeInfo} {z : Value} {a b : Nat} (h : i.map (fun i => (i.zero, i.size, i.bytes)) = some (some z, a, b)) : ∃ i0, i = some i0 ∧ i0.zero = some z ∧ i0.size = a ∧ i0.bytes = b := by
  cases i with
  | none => simp at h
  | some i0 => simp at h; exact ⟨i0, rfl, h.1, h.2.1, h.2.2⟩

/-- block g holds the N truth values f -/
def Row (w : World) (g N : Nat) (f : Nat → Bool) : Prop := w.ownsRow g 4 1 (.slice (some ⟨g, 0, none⟩) N N) N ((List.range N).map fun j => .bool (f j))
theorem Row.made {w : World} {g N : Nat} (h : w.ownsRow g 4 1 (.slice (some ⟨g, 0, none⟩) N N) N (madeCells (Value.bool false).cells (N * 1)).toList) : Row w g N (fun _ => false) := by
  have e : (madeCells (Value.bool false).cells (N * 1)).toList = (List.range N).map (fun _ => Value.bool false) := by
    rw [Nat.mul_one, List.map_const', List.length_range]
    exact toList_madeCells_one _ _
  unfold Row
  rw [← e]
  exact h
theorem Row.ext {w : World} {g N : Nat} {f f' : Nat → Bool} (h : Row w g N f) (e : ∀ q, q < N → f q = f' q) : Row w g N f' := by
  unfold Row at h ⊢
  have : (List.range N).map (fun j => Value.bool (f' j)) = (List.range N).map (fun j => Value.bool (f j)) := by
    refine List.map_congr_left fun j hj => ?_
    rw [e j (by simpa using hj)]
  rw [this]
  exact h
theorem Row.cell {w : World} {g N : Nat} {f : Nat → Bool} (h : Row w g N f) (j : Nat) (hj : j < N) : w.cell? ⟨g, j, none⟩ = some (.bool (f j)) := by
  unfold Row at h
  rw [h.cellAt j (by omega), List.getElem?_map, List.getElem?_range hj]
  rfl
theorem Row.free {w : World} {g N : Nat} {f : Nat → Bool} (h : Row w g N f) (j : Nat) : w.frozen? ⟨g, j, none⟩ = false := h.frozenAt j
theorem Row.put {w : World} {g N : Nat} {f : Nat → Bool} (h : Row w g N f) (j : Nat) (b : Bool) : Row (w.setCell ⟨g, j, none⟩ (.bool b)) g N (fun q => if q = j then b else f q) := by
  unfold Row at h ⊢
  have h1 := (h.stored j (.bool b)).1
  have e : ((List.range N).map fun q => Value.bool (f q)).set j (.bool b) = (List.range N).map fun q => Value.bool (if q = j then b else f q) := by
    refine List.ext_getElem? fun i => ?_
    by_cases hi : i < N
    · rw [List.getElem?_map, List.getElem?_range hi]
      by_cases e : i = j
      · subst e
        rw [List.getElem?_set_self (by simpa using hi)]
        simp
      · rw [List.getElem?_set_ne (Ne.symm e), List.getElem?_map, List.getElem?_range hi]
        simp [e]
    · rw [List.getElem?_eq_none (by simp; omega), List.getElem?_eq_none (by simp; omega)]
  rw [← e]
  exact h1
theorem Row.other {w : World} {g g' N : Nat} {f : Nat → Bool} (h : Row w g N f) (hne : g ≠ g') (j : Nat) (u : Value) : Row (w.setCell ⟨g', j, none⟩ u) g N f :=
  World.ownsRow.kept h (row := some g') ⟨rfl, rfl, rfl, by simp [World.setCell], fun k _ hk => Below.heap_setCell _ _ _ _ (fun e => hk (by simp [e]))⟩ (Or.inr (by simp [Value.ownBlock, hne]))
theorem Row.same {w w' : World} {g N : Nat} {f : Nat → Bool} (h : Row w g N f) (e : w'.heap = w.heap) : Row w' g N f := by
  unfold Row at h ⊢
  refine ⟨h.1, ?_⟩
  rw [e]
  exact h.2
theorem Row.lt {w : World} {g N : Nat} {f : Nat → Bool} (h : Row w g N f) : g < w.heap.size := by
  rcases h.2 with ⟨h', _⟩ | ⟨g', cap, cur, hv, _, hg, _⟩
  · simp at h'
  · simp only [Value.slice.injEq, Option.some.injEq, Addr.mk.injEq, and_true, true_and] at hv
    obtain ⟨rfl, rfl⟩ := hv
    rcases Nat.lt_or_ge g w.heap.size with h' | h'
    · exact h'
    · simp [Array.getElem?_eq_none h'] at hg
theorem Row.below {w w' : World} {g N : Nat} {f : Nat → Bool} (h : Row w g N f) (hb : Below w.heap.size w w') : Row w' g N f := by
  have hl := h.lt
  unfold Row at h ⊢
  refine ⟨h.1, ?_⟩
  rcases h.2 with h' | ⟨g', cap, cur, hv, h1, hg, r⟩
  · exact Or.inl h'
  · refine Or.inr ⟨g', cap, cur, hv, h1, ?_, r⟩
    have : g' = g := by
      simp only [Value.slice.injEq, Option.some.injEq, Addr.mk.injEq, and_true, true_and] at hv
      exact hv.1.symm
    subst this
    rw [hb.block g' hl]
    exact hg

/-- the two rows of the table, k bytes of the pattern done -/
structure Tab (b s : ByteArray) (w wr : World) (gc gn N k : Nat) (h : Nat → Bool) : Prop where
  ne : gc ≠ gn
  lc : w.heap.size ≤ gc
  ln : w.heap.size ≤ gn
  cur : Row wr gc N (dp b s k)
  nxt : Row wr gn N h
  bel : Below w.heap.size w wr
theorem Tab.put {b s : ByteArray} {w wr : World} {gc gn N k : Nat} {h : Nat → Bool} (T : Tab b s w wr gc gn N k h) (j : Nat) (x : Bool) : Tab b s w (wr.setCell ⟨gn, j, none⟩ (.bool x)) gc gn N k (fun q => if q = j then x else h q) :=
  ⟨T.ne, T.lc, T.ln, T.cur.other T.ne j _, T.nxt.put j x, T.bel.setCell (p := ⟨gn, j, none⟩) T.ln _⟩
theorem Tab.drew {b s : ByteArray} {w wr : World} {gc gn N k : Nat} {h : Nat → Bool} (T : Tab b s w wr gc gn N k h) : Tab b s w wr.drew gc gn N k h :=
  ⟨T.ne, T.lc, T.ln, T.cur.same rfl, T.nxt.same rfl, T.bel.drew⟩
theorem Tab.swap {b s : ByteArray} {w wr : World} {gc gn N k : Nat} {h : Nat → Bool} (T : Tab b s w wr gc gn N k h) (e : ∀ q, q < N → h q = dp b s (k + 1) q) : Tab b s w wr gn gc N (k + 1) (dp b s k) :=
  ⟨T.ne.symm, T.ln, T.lc, T.nxt.ext e, T.cur, T.bel⟩
/-- how far the next row stands -/
def Upto (c : UInt8) (s : ByteArray) (f h : Nat → Bool) (j : Nat) : Prop := ∀ q, q < j → h q = stN c s f q
theorem Upto.put {c : UInt8} {s : ByteArray} {f h : Nat → Bool} {j : Nat} {x : Bool} (U : Upto c s f h j) (e : x = stN c s f j) : Upto c s f (fun q => if q = j then x else h q) (j + 1) := by
  intro q hq
  by_cases eq : q = j
  · subst eq; simp only [if_true]; exact e
  · simp only [if_neg eq]; exact U q (by omega)
theorem st_star (s : ByteArray) (f : Nat → Bool) (j : Nat) : stN 42 s f j = (anyLt f j || f j) := by unfold stN; rw [if_pos rfl]; rfl
theorem st_zero {c : UInt8} (hc : c ≠ 42) (s : ByteArray) (f : Nat → Bool) : false = stN c s f 0 := by unfold stN; rw [if_neg hc]; simp
theorem st_lit {c : UInt8} (hc : c ≠ 42) (s : ByteArray) (f : Nat → Bool) (j : Nat) (hj : j < s.size) : stN c s f (j + 1) = (f j && decide (s[j] = c)) := by
  unfold stN
  rw [if_neg hc]
  have hk : j < s.data.toList.length := by rw [size_list]; exact hj
  have e : s.data.toList[j + 1 - 1]? = some s[j] := by
    show s.data.toList[j]? = some s[j]
    rw [List.getElem?_eq_getElem hk]
    rfl
  rw [e]
  simp
theorem dp_at (b s : ByteArray) (k : Nat) (hk : k < b.size) (q : Nat) : dp b s (k + 1) q = stN b[k] s (dp b s k) q := by
  have hl : k < b.data.toList.length := by rw [size_list]; exact hk
  have e2 : b.data.toList.getD k 0 = b[k] := by rw [List.getD_eq_getElem?_getD, List.getElem?_eq_getElem hl]; rfl
  rw [dp, e2]
theorem byte_eq {x y : UInt8} (h : x = y) : ((x.toNat : Int) == (y.toNat : Int)) = true := by rw [h]; simp
theorem byte_ne {x y : UInt8} (h : x ≠ y) : ((x.toNat : Int) == (y.toNat : Int)) = false := by
  rw [beq_eq_false_iff_ne]
  intro e
  exact h (UInt8.toNat_inj.1 (by omega))

/-- the pattern without its dollar -/
def Body (p b : ByteArray) (an : Bool) : Prop := (an = true ∧ (∃ h0 : 0 < p.size, p[p.size - 1] = 36) ∧ b = p.extract 0 (p.size - 1)) ∨ (an = false ∧ (∀ h0 : 0 < p.size, p[p.size - 1] ≠ 36) ∧ b = p)
end Go.Proofs.Qxb6600232a
