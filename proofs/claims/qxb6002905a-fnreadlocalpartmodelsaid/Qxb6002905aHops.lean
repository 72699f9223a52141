/-
  A LIST OF HOPS IN MEMORY OF THE CALL's OWN: appended to, told apart from another block of the same type.
-/
import Derived.Test.Qxb6002905aLocal
import Derived.ArgAppend
import Derived.OwnWalk
import Derived.Lib.Builder
import Derived.Maps.AppendAt
namespace Go.Proofs.Qxb6002905a
open Go.RowKit
set_option linter.unusedVariables false

theorem ownsRow_base {w : World} {B B' : Nat} {e : TypeId} {z n : Nat} {v : Value} {xs : List Value} (h : w.ownsRow B e z v n xs) (hB : B' ≤ B) : w.ownsRow B' e z v n xs := by
  refine ⟨h.1, ?_⟩
  rcases h.2 with h' | ⟨g, cap, cur, hv, hg, r⟩
  · exact Or.inl h'
  · exact Or.inr ⟨g, cap, cur, hv, by omega, r⟩
theorem grownBy_any {w w' : World} {row : Option Nat} (h : w.grownBy w' none) : w.grownBy w' row :=
  ⟨h.1, h.2, h.3, h.4, fun k hk _ => h.5 k hk (by simp)⟩
theorem ownBlock_ge {w : World} {B : Nat} {e : TypeId} {z n : Nat} {v : Value} {xs : List Value} (h : w.ownsRow B e z v n xs) (k : Nat) (hk : v.ownBlock = some k) : B ≤ k := by
  rcases h.2 with ⟨hv, _⟩ | ⟨g, cap, cur, hv, hg, _⟩
  · rw [hv] at hk; simp [Value.ownBlock] at hk
  · rw [hv] at hk; simp [Value.ownBlock] at hk; omega
theorem ownBlock_lt {w : World} {B : Nat} {e : TypeId} {z n : Nat} {v : Value} {xs : List Value} (h : w.ownsRow B e z v n xs) (k : Nat) (hk : v.ownBlock = some k) : k < w.heap.size := by
  rcases h.2 with ⟨hv, _⟩ | ⟨g, cap, cur, hv, hg, hh, _⟩
  · rw [hv] at hk; simp [Value.ownBlock] at hk
  · rw [hv] at hk
    simp only [Value.ownBlock, Option.some.injEq] at hk
    subst hk
    rcases Nat.lt_or_ge g w.heap.size with h' | h'
    · exact h'
    · simp [Array.getElem?_eq_none h'] at hh

/-- append onto a row of the call's own: the row that comes out is the old one or a new block -/
theorem wpList_append_sep {P : Program} (w : World) {ops : Array Oper} {rest : List Oper} {o : Oper} {a : Act} {Q : Exit → Act → World → Prop} (hgd : o.guard = none) (s x : Operand) (t : TypeId)
    (ho : o.op = .call { callee := .builtin .append, args := #[s, x], argTypes := #[t, t] })
    (base : Nat) (e : TypeId) (i : TypeInfo) (z : Value) (size bytes : Nat) (ht : P.underlying t = some (.slice e)) (hi : P.info? e = some i) (hz : i.zero = some z)
    (hsize : i.size = size) (hby : i.bytes = bytes) (hzs : z.cells.size = size) (hsz : 0 < size)
    (v : Value) (n : Nat) (xs : List Value) (hs : a.eval s = v) (hown : w.ownsRow base e size v n xs)
    (ad : Addr) (m c : Nat) (news : List Value) (hx : a.eval x = .slice (some ad) m c) (hl : news.length = m * size) (hnews : ∀ j u, news[j]? = some u → w.cell? (ad.add j) = some u) (h1 : ∀ u ∈ news, u.oneCell' = true)
    (hm : 0 < m) (h63 : n + m ≤ maxLen) (hbytes : (n + m) * bytes ≤ 140737488355328) (hbase : base ≤ w.heap.size)
    (h : ∀ v' w', w'.ownsRow base e size v' (n + m) (xs ++ news) → w.grownBy w' v.ownBlock → (∀ k, v'.ownBlock = some k → v.ownBlock = some k ∨ w.heap.size ≤ k) → wpList P ops Q rest (a.put o.dst v') w') : wpList P ops Q (o :: rest) a w := by
  rcases hown.2 with ⟨hv, hn⟩ | ⟨g, cap, cur, hv, hbg, hg, hnc, hcm, hcs, htake⟩
  · have hx0 : xs = [] := List.eq_nil_of_length_eq_zero (by rw [hown.1, hn]; simp)
    subst hx0
    subst hn
    refine wpList_append_grows w hgd s x t ho e i z size bytes ht hi hz hsize hby hzs hsz none 0 0 [] (hs.trans hv) (fun _ => ⟨rfl, rfl⟩) (by simp) (fun b hb => absurd hb (by simp)) ad m c news hx hl hnews h1 (by omega) h63 hbytes ?_
    intro v' w' hown' hgr
    exact h v' w' (ownsRow_base hown' hbase) (grownBy_any hgr) (fun k hk => Or.inr (ownBlock_ge hown' k hk))
  · have hown2 : w.ownsRow base e size (.slice (some ⟨g, 0, none⟩) n cap) n xs := hv ▸ hown
    by_cases hroom : n + m ≤ cap
    · refine wpList_append_fits w hgd s x t ho base e i size ht hi hsize g n cap xs (hs.trans hv) hown2 ad m c news hx hl hnews h1 hroom ?_
      intro w' hown' hgr
      refine h _ w' hown' (by rw [hv]; exact hgr) (fun k hk => Or.inl ?_)
      rw [hv]
      simpa [Value.ownBlock] using hk
    · have holds : ∀ j u, xs[j]? = some u → w.cell? ((⟨g, 0, none⟩ : Addr).add j) = some u := hown2.cells (g := g) rfl
      refine wpList_append_grows w hgd s x t ho e i z size bytes ht hi hz hsize hby hzs hsz (some ⟨g, 0, none⟩) n cap xs (hs.trans hv) (fun hb => absurd hb (by simp)) hown.1 (fun b hb => by rw [Option.some.injEq] at hb; rw [← hb]; exact holds) ad m c news hx hl hnews h1 (by omega) h63 hbytes ?_
      intro v' w' hown' hgr
      exact h v' w' (ownsRow_base hown' hbase) (grownBy_any hgr) (fun k hk => Or.inr (ownBlock_ge hown' k hk))

/-! ### hops -/
def hopCells (hs : List (ByteArray × ByteArray)) : List Value := hs.flatMap fun h => [.string h.1, .string h.2]
theorem hopCells_append (a b : List (ByteArray × ByteArray)) : hopCells (a ++ b) = hopCells a ++ hopCells b := by simp [hopCells]
theorem hopCells_one (n k : ByteArray) : hopCells [(n, k)] = [.string n, .string k] := rfl
theorem hopCells_length (hs : List (ByteArray × ByteArray)) : (hopCells hs).length = hs.length * 2 := by
  induction hs with
  | nil => rfl
  | cons h t ih =>
    have : hopCells (h :: t) = .string h.1 :: .string h.2 :: hopCells t := rfl
    rw [this, List.length_cons, List.length_cons, List.length_cons, ih]
    omega
theorem hopCells_get : ∀ (hs : List (ByteArray × ByteArray)) (i : Nat) (h : i < hs.length), (hopCells hs)[2 * i]? = some (.string hs[i].1) ∧ (hopCells hs)[2 * i + 1]? = some (.string hs[i].2)
  | [], i, h => absurd h (by simp)
  | x :: t, 0, h => ⟨rfl, rfl⟩
  | x :: t, i + 1, h => by
    have e : hopCells (x :: t) = .string x.1 :: .string x.2 :: hopCells t := rfl
    have ih := hopCells_get t i (by simpa using h)
    have e1 : 2 * (i + 1) = 2 * i + 1 + 1 := by omega
    rw [e, e1]
    simp only [List.getElem?_cons_succ, List.getElem_cons_succ]
    exact ih
/-- the value v owns the hops hs -/
def OwnH (w : World) (B : Nat) (v : Value) (hs : List (ByteArray × ByteArray)) : Prop := w.ownsRow B 34 2 v hs.length (hopCells hs)
theorem two_new (w : World) (x y : Value) (t : TypeId) : ∀ j u, [x, y][j]? = some u → (w.alloc (.cells #[x, y] t)).cell? ((⟨w.heap.size, 0, none⟩ : Addr).add j) = some u := by
  intro j u hj
  match j, hj with
  | 0, hj => simp at hj; subst hj; simp [Addr.add]
  | 1, hj => simp at hj; subst hj; simp [Addr.add]
theorem two_cell (n k : ByteArray) : ∀ u ∈ [Value.string n, Value.string k], u.oneCell' = true := by
  intro u hu
  simp only [List.mem_cons, List.not_mem_nil, or_false] at hu
  rcases hu with h | h <;> rw [h] <;> rfl
theorem info34 : (Try.prog.info? 34).map (fun i => (i.zero, i.size, i.bytes)) = some (some (.agg #[.string ⟨#[]⟩, .string ⟨#[]⟩]), 2, 32) := by kernel_rfl

/-- block bb holds the hop (n, k) -/
def HopAt (w : World) (bb : Nat) (n k : ByteArray) : Prop := w.heap[bb]? = some (.cells #[.string n, .string k] 34 (0, 0))
theorem HopAt.lt {w : World} {bb : Nat} {n k : ByteArray} (h : HopAt w bb n k) : bb < w.heap.size := by
  rcases Nat.lt_or_ge bb w.heap.size with h' | h'
  · exact h'
  · unfold HopAt at h; simp [Array.getElem?_eq_none h'] at h
theorem HopAt.c0 {w : World} {bb : Nat} {n k : ByteArray} (h : HopAt w bb n k) : w.cell? ⟨bb, 0, none⟩ = some (.string n) := by rw [Lib.cell_of_heap h]; rfl
theorem HopAt.c1 {w : World} {bb : Nat} {n k : ByteArray} (h : HopAt w bb n k) : w.cell? ⟨bb, 1, none⟩ = some (.string k) := by rw [Lib.cell_of_heap h]; rfl
theorem HopAt.f {w : World} {bb : Nat} {n k : ByteArray} (h : HopAt w bb n k) (j : Nat) : w.frozen? ⟨bb, j, none⟩ = false := Lib.frozen_of_heap h j
theorem HopAt.below {w w' : World} {bb B : Nat} {n k : ByteArray} (h : HopAt w bb n k) (hb : bb < B) (hbel : Below B w w') : HopAt w' bb n k := by
  unfold HopAt; rw [hbel.block bb hb]; exact h
theorem HopAt.set {w : World} {bb : Nat} {n k n' k' : ByteArray} (h : HopAt w bb n k) : HopAt ((w.setCell ⟨bb, 0, none⟩ (.string n')).setCell ⟨bb, 1, none⟩ (.string k')) bb n' k' := by
  unfold HopAt at h ⊢
  simp [World.setCell, Array.getElem?_modify, h]
theorem OwnH.setCell {w : World} {B bb : Nat} {v : Value} {hs : List (ByteArray × ByteArray)} (h : OwnH w B v hs) (hne : v.ownBlock ≠ some bb) (j : Nat) (u : Value) : OwnH (w.setCell ⟨bb, j, none⟩ u) B v hs :=
  World.ownsRow.kept h (row := some bb) ⟨rfl, rfl, rfl, by simp [World.setCell], fun k _ hk => Below.heap_setCell _ _ _ _ (fun e => hk (by simp [e]))⟩ (Or.inr hne)
theorem OwnH.below {w w' : World} {B : Nat} {v : Value} {hs : List (ByteArray × ByteArray)} (h : OwnH w B v hs) (hb : Below w.heap.size w w') : OwnH w' B v hs := by
  refine ⟨h.1, ?_⟩
  rcases h.2 with h' | ⟨g, cap, cur, hv, hg, hc, r⟩
  · exact Or.inl h'
  · refine Or.inr ⟨g, cap, cur, hv, hg, ?_, r⟩
    rw [hb.block g (ownBlock_lt h g (by rw [hv]; rfl))]
    exact hc
/-- what an append of one hop leaves -/
theorem own_hop {w wr w1 : World} {B bb : Nat} {v v' : Value} {hs : List (ByteArray × ByteArray)} {n k : ByteArray} {o : Obj} (hown : OwnH wr B v hs) (hbel : Below B w wr) (hB : B ≤ w.heap.size)
    (h : w1.ownsRow B 34 2 v' (hs.length + 1) (hopCells hs ++ [.string n, .string k])) (hg : (wr.alloc o).grownBy w1 v.ownBlock) (hk : ∀ q, v'.ownBlock = some q → v.ownBlock = some q ∨ (wr.alloc o).heap.size ≤ q)
    (hb : bb < wr.heap.size) (hne : v.ownBlock ≠ some bb) : OwnH w1 B v' (hs ++ [(n, k)]) ∧ Below B w w1 ∧ v'.ownBlock ≠ some bb ∧ w1.heap[bb]? = wr.heap[bb]? := by
  have hsz := hbel.size
  refine ⟨?_, ?_, ?_, ?_⟩
  · unfold OwnH
    rw [List.length_append, List.length_singleton, hopCells_append, hopCells_one]
    exact h
  · exact (hbel.alloc (by omega) o).grown hg (by simp; omega) (fun q hq => ownBlock_ge hown q hq)
  · intro e
    rcases hk bb e with h' | h'
    · exact hne h'
    · simp at h'; omega
  · rw [hg.block bb (by simp; omega) (fun e => hne e.symm)]
    exact Lib.alloc_old wr o bb hb
end Go.Proofs.Qxb6002905a
