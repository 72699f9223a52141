/-
  A SLICE OF STRINGS OR OF HOPS, EMPTY OR NOT, AS THE WALK OF FnReadLocalPartModel MEETS IT.
-/
import Derived.Test.Qxb6002905aOpen
import Derived.Test.Qxb6002905aBang
namespace Go.Proofs.Qxb6002905a
open Go.RowKit
set_option linter.unusedVariables false

theorem CameS.below {w w' : World} {a : Option Addr} {n : Nat} {ss : List ByteArray} (h : CameS w a n ss) (hb : Below w.heap.size w w') : CameS w' a n ss := by
  refine ⟨h.1, h.2.1, h.2.2.1, fun h0 => ?_⟩
  obtain ⟨b, off, e, h1, h2⟩ := h.2.2.2 h0
  exact ⟨b, off, e, by have := hb.size; omega, h2.below h1 hb⟩
theorem sb14_any (a : Option Addr) (n cap : Nat) (ss : List ByteArray) (w : World) (h : CameS w a n ss) (hT : n + sumS ss n ≤ 1048576) :
    Calls Try.prog 14 #[.slice a n cap] w fun e w' => e = .returned (.int .i64 ((16 * n + sumS ss n : Nat) : Int)) ∧ w = w' := by
  by_cases h0 : 0 < n
  · obtain ⟨b, off, rfl, h1, h2⟩ := h.2.2.2 h0
    exact sb14_row b off n cap ss w h2 h.1 hT
  · obtain rfl : n = 0 := by omega
    rw [sumS_zero]
    exact sb14_zero a cap w

/-- hops that came out: nothing, or a row of pairs -/
def CameH (w : World) (a : Option Addr) (hs : List (ByteArray × ByteArray)) : Prop :=
  ∀ j, j < hs.length → ∃ g, a = some ⟨g, 0, none⟩ ∧ g < w.heap.size ∧ w.cell? ⟨g, j * 2, none⟩ = some (.string (hs.getD j (uucp, uucp)).1) ∧ w.cell? ⟨g, j * 2 + 1, none⟩ = some (.string (hs.getD j (uucp, uucp)).2)
theorem CameH.below {w w' : World} {a : Option Addr} {hs : List (ByteArray × ByteArray)} (h : CameH w a hs) (hb : Below w.heap.size w w') : CameH w' a hs := by
  intro j hj
  obtain ⟨g, e, h1, h2, h3⟩ := h j hj
  exact ⟨g, e, by have := hb.size; omega, (hb.cell (p := ⟨g, j * 2, none⟩) h1).trans h2, (hb.cell (p := ⟨g, j * 2 + 1, none⟩) h1).trans h3⟩
theorem came_hops {w : World} {B : Nat} {v : Value} {hs : List (ByteArray × ByteArray)} (h : OwnH w B v hs) : ∃ a cap, v = .slice a hs.length cap ∧ CameH w a hs := by
  unfold OwnH at h
  rcases h.2 with ⟨h0, hn⟩ | ⟨g, cap, cur, hv, _⟩
  · refine ⟨none, 0, ?_, fun j hj => absurd hj (by omega)⟩
    rw [hn]; exact h0
  · refine ⟨some ⟨g, 0, none⟩, cap, hv, fun j hj => ?_⟩
    have hlt := ownBlock_lt h g (by rw [hv]; rfl)
    subst hv
    have gj := hopCells_get hs j hj
    have ej : hs.getD j (uucp, uucp) = hs[j] := by rw [List.getD_eq_getElem?_getD, List.getElem?_eq_getElem hj]; rfl
    rw [ej, Nat.mul_comm j 2]
    exact ⟨g, rfl, hlt, (h.cellAt (2 * j) (by omega)).trans gj.1, (h.cellAt (2 * j + 1) (by omega)).trans gj.2⟩

/-- the names and kinds as hops -/
def pairs (ss ts : List ByteArray) : List (ByteArray × ByteArray) := ss.zip ts
theorem pairs_len {ss ts : List ByteArray} {n : Nat} (h1 : ss.length = n) (h2 : ts.length = n) : (pairs ss ts).length = n := by unfold pairs; rw [List.length_zip]; omega
theorem pairs_get {ss ts : List ByteArray} {n j : Nat} (h1 : ss.length = n) (h2 : ts.length = n) (hj : j < n) : (pairs ss ts)[j]? = some (ss.getD j ByteArray.empty, ts.getD j ByteArray.empty) := by
  unfold pairs
  rw [List.getElem?_eq_getElem (by rw [List.length_zip]; omega), List.getElem_zip, List.getD_eq_getElem?_getD, List.getD_eq_getElem?_getD, List.getElem?_eq_getElem (by omega), List.getElem?_eq_getElem (by omega)]
  rfl
/-- the row of hops being filled: the first k stand -/
def Fill (w : World) (g n k : Nat) (ss ts : List ByteArray) : Prop := ∃ cs : List Value, w.ownsRow g 34 2 (.slice (some ⟨g, 0, none⟩) n n) n cs ∧ ∀ j, j < 2 * k → cs[j]? = (hopCells (pairs ss ts))[j]?
theorem Fill.lt {w : World} {g n k : Nat} {ss ts : List ByteArray} (h : Fill w g n k ss ts) : g < w.heap.size := by
  obtain ⟨cs, h1, _⟩ := h
  exact ownBlock_lt h1 g rfl
theorem Fill.old {w : World} {g n k : Nat} {ss ts : List ByteArray} (h : Fill w g n k ss ts) (j : Nat) (hj : j < n * 2) : ∃ x, w.cell? ⟨g, j, none⟩ = some x := by
  obtain ⟨cs, h1, _⟩ := h
  have hl : cs.length = n * 2 := h1.1
  exact ⟨cs[j], (h1.cellAt j (by omega)).trans (List.getElem?_eq_getElem (by omega))⟩
theorem Fill.free {w : World} {g n k : Nat} {ss ts : List ByteArray} (h : Fill w g n k ss ts) (j : Nat) : w.frozen? ⟨g, j, none⟩ = false := by
  obtain ⟨cs, h1, _⟩ := h
  exact h1.frozenAt j
theorem Fill.put {w : World} {g n k : Nat} {ss ts : List ByteArray} (h : Fill w g n k ss ts) (h1 : ss.length = n) (h2 : ts.length = n) (hk : k < n) :
    Fill ((w.setCell ⟨g, k * 2, none⟩ (.string (ss.getD k ByteArray.empty))).setCell ⟨g, k * 2 + 1, none⟩ (.string (ts.getD k ByteArray.empty))) g n (k + 1) ss ts := by
  obtain ⟨cs, h3, h4⟩ := h
  have hl : cs.length = n * 2 := h3.1
  have h5 := (h3.stored (k * 2) (.string (ss.getD k ByteArray.empty))).1
  have h6 := (h5.stored (k * 2 + 1) (.string (ts.getD k ByteArray.empty))).1
  refine ⟨_, h6, fun j hj => ?_⟩
  have hp : k < (pairs ss ts).length := by rw [pairs_len h1 h2]; exact hk
  have gk := hopCells_get (pairs ss ts) k hp
  have ek : (pairs ss ts)[k] = (ss.getD k ByteArray.empty, ts.getD k ByteArray.empty) := by
    have := pairs_get h1 h2 hk
    rw [List.getElem?_eq_getElem hp, Option.some.injEq] at this
    exact this
  rw [ek] at gk
  by_cases e1 : j = k * 2 + 1
  · subst e1
    rw [List.getElem?_set_self (by rw [List.length_set]; omega), Nat.mul_comm k 2]
    exact gk.2.symm
  · rw [List.getElem?_set_ne (by omega)]
    by_cases e2 : j = k * 2
    · subst e2
      rw [List.getElem?_set_self (by omega), Nat.mul_comm k 2]
      exact gk.1.symm
    · rw [List.getElem?_set_ne (by omega)]
      exact h4 j (by omega)
theorem Fill.full {w : World} {g n B : Nat} {ss ts : List ByteArray} (h : Fill w g n n ss ts) (h1 : ss.length = n) (h2 : ts.length = n) (hB : B ≤ g) : OwnH w B (.slice (some ⟨g, 0, none⟩) n n) (pairs ss ts) := by
  obtain ⟨cs, h3, h4⟩ := h
  have hl : cs.length = n * 2 := h3.1
  have hp := pairs_len h1 h2
  have e : cs = hopCells (pairs ss ts) := by
    refine List.ext_getElem? fun j => ?_
    by_cases hj : j < n * 2
    · exact h4 j (by omega)
    · rw [List.getElem?_eq_none (by omega), List.getElem?_eq_none (by rw [hopCells_length, hp]; omega)]
  unfold OwnH
  rw [hp, ← e]
  exact ownsRow_base h3 hB
theorem Fill.below {w w' : World} {g n k : Nat} {ss ts : List ByteArray} (h : Fill w g n k ss ts) (hb : w'.heap = w.heap) : Fill w' g n k ss ts := by
  obtain ⟨cs, h3, h4⟩ := h
  refine ⟨cs, ⟨h3.1, ?_⟩, h4⟩
  rw [hb]
  exact h3.2
end Go.Proofs.Qxb6002905a
