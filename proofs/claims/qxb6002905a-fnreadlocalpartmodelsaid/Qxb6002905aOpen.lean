/-
  A SLICE OF STRINGS THAT CAME IN: what the walks are told of it.
-/
import Derived.Test.Qxb6002905aStrs
import Derived.SliceStrings
import Derived.OpenShut
namespace Go.Proofs.Qxb6002905a
open Go.RowKit Go.WideShapes Go.ChangeShapes

/-- nil or empty; or a row of strings in an old block -/
def CameS (w : World) (a : Option Addr) (n : Nat) (ss : List ByteArray) : Prop :=
  ss.length = n ∧ n ≤ 9223372036854775807 ∧ (∀ t ∈ ss, t.size ≤ 9223372036854775807) ∧ (0 < n → ∃ b off, a = some ⟨b, off, none⟩ ∧ b < w.heap.size ∧ RowS w b off ss)

theorem came_strs {H : Type} {enc : TypeId × Value → H} {W : World} {base : Nat} {held : Bool} {a : Option Addr} {n cap : Nat} {d : DataW H} {ps : List MemPlace}
    (h : DataW.Trod enc Try.prog W base (fun _ => true) held 28 (.slice a n cap) d ps) : ∃ ss, CameS W a n ss := by
  obtain ⟨fuel, hf⟩ := h
  rcases open_strings Try.underlying28 Try.underlying9 (by kernel_rfl) hf with ⟨hcs, _⟩ | ⟨x, l, c, ss, hcs, _, hl, hm, hz, _, hcell, hsz⟩
  · simp [Value.cells] at hcs
    obtain ⟨rfl, rfl, rfl⟩ := hcs
    exact ⟨[], rfl, by omega, fun t ht => by simp at ht, fun h => absurd h (by omega)⟩
  · simp [Value.cells] at hcs
    obtain ⟨rfl, rfl, rfl⟩ := hcs
    have hz' : ss.length = cap := by simpa using hz
    have hlen : (ss.take n).length = n := by rw [List.length_take]; omega
    unfold maxLen at hm hsz
    refine ⟨ss.take n, hlen, by omega, fun t ht => by have := hsz t (List.mem_of_mem_take ht); omega, fun h0 => ?_⟩
    obtain ⟨b, off, spot⟩ := x
    have h00 := hcell 0 (by omega)
    have hspot : spot = none := by simpa [Addr.add] using World.cell?_spot h00
    subst hspot
    have hcell' : ∀ i, i < ss.length → W.cell? ⟨b, off + i, none⟩ = some (.string (ss.getD i ByteArray.empty)) := fun i hi => by rw [← add_plain]; exact hcell i hi
    refine ⟨b, off, rfl, ?_, fun i hi => ?_⟩
    · have hc0 := hcell' 0 (by omega)
      rcases Nat.lt_or_ge b W.heap.size with h' | h'
      · exact h'
      · exfalso
        have : W.heap[b]? = none := Array.getElem?_eq_none h'
        simp [World.cell?, this] at hc0
    · rw [hcell' i (by omega)]
      rw [List.getD_eq_getElem?_getD, List.getD_eq_getElem?_getD, List.getElem?_take_of_lt (by omega)]
end Go.Proofs.Qxb6002905a
