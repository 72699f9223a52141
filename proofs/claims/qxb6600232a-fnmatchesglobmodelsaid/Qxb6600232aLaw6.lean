/-
  THE WALK OF FnMatchesGlobModel.
-/
import Derived.Test.Qxb6600232aTabw
namespace Go.Proofs.Qxb6600232a
open Go.RowKit Go.Proofs.Qxb6600232a.Glob
set_option linter.unusedVariables false

def Tells (e : Ending) : Prop := ∃ x, e = .returned (.bool x)
set_option maxHeartbeats 1000000 in
theorem bytes15 (p s : ByteArray) (hp : p.size ≤ 9223372036854775807) (hs : s.size ≤ 9223372036854775807) (w : World) :
    Calls Try.prog 15 #[.string p, .string s] w fun e w' => Tells e ∧ w = w' := by
  go_enter Try.func15, Try.ntmps15
  go_wp2
  all_goals go_ret
  all_goals exact ⟨⟨_, rfl⟩, rfl⟩
set_option maxHeartbeats 1000000 in
theorem match16 (p s : ByteArray) (m : Int) (w : World) (hp : p.size ≤ 1048576) (hs : s.size ≤ 1048576) (hm : w.cell? ⟨0, 0, none⟩ = some (.int .i64 m)) :
    Calls Try.prog 16 #[.string p, .string s] w fun e w' => e = .returned (.bool (mat p.data.toList s.data.toList)) ∧ Drew w w' := by
  have HMX : Hid (w.cell? ⟨0, 0, none⟩ = some (.int .i64 m)) := hm
  clear hm
  go_enter Try.func16, Try.ntmps16
  go_wp2_with fail
  refine (match25 p s m _ hp hs HMX.out).mono ?_
  rintro e w' ⟨rfl, hd⟩
  obtain ⟨x, hx⟩ : ∃ x, mat p.data.toList s.data.toList = x := ⟨_, rfl⟩
  have HX : Hid (mat p.data.toList s.data.toList = x) := hx
  rw [hx]
  clear hx
  go_wp2
  go_ret
  exact ⟨by rw [HX.out]; rfl, hd⟩
theorem body_of (p : ByteArray) : ∃ b an, Body p b an ∧ ∀ s : ByteArray, mat p.data.toList s.data.toList = modelR an b s := by
  by_cases h0 : 0 < p.size
  · by_cases e : p[p.size - 1] = 36
    · obtain ⟨h1, h2⟩ := body_yes p h0 e
      exact ⟨_, true, Or.inl ⟨rfl, ⟨h0, e⟩, rfl⟩, fun s => model_is p _ s true h1 h2⟩
    · obtain ⟨h1, h2⟩ := body_no p (fun _ => e)
      exact ⟨p, false, Or.inr ⟨rfl, fun _ => e, rfl⟩, fun s => model_is p p s false h1 h2⟩
  · obtain ⟨h1, h2⟩ := body_no p (fun h => absurd h h0)
    exact ⟨p, false, Or.inr ⟨rfl, fun h => absurd h h0, rfl⟩, fun s => model_is p p s false h1 h2⟩

set_option maxHeartbeats 1000000 in
theorem law6 (p s : ByteArray) (m : Int) (w : World) (hp : p.size ≤ 9223372036854775807) (hs : s.size ≤ 9223372036854775807) (hm : w.cell? ⟨0, 0, none⟩ = some (.int .i64 m)) :
    Calls Try.prog 6 #[.string p, .string s] w fun e w' => e = .returned (.bool true) ∧ Below w.heap.size w w' := by
  have HMX : Hid (w.cell? ⟨0, 0, none⟩ = some (.int .i64 m)) := hm
  clear hm
  obtain ⟨b, an, hB, hmod⟩ := body_of p
  have HB : Hid (Body p b an) := hB
  have HM : Hid (mat p.data.toList s.data.toList = modelR an b s) := hmod s
  clear hB hmod
  go_enter Try.func6, Try.ntmps6
  go_wp2_with fail
  refine (bytes15 p s hp hs _).mono ?_
  rintro e w' ⟨⟨x, rfl⟩, rfl⟩
  cases x with
  | false =>
    go_wp2
    go_ret
    exact ⟨rfl, Below.refl _ _⟩
  | true =>
    by_cases hT : p.size ≤ 1024 ∧ s.size ≤ 1024
    · obtain ⟨t1, t2⟩ := hT
      go_wp2_with fail
      refine (match16 p s m _ (by omega) (by omega) HMX.out).mono ?_
      rintro e w1 ⟨rfl, q, rfl⟩
      go_wp2_with fail
      refine (model17 p b s an _ (by omega) (by omega) HB.out).mono ?_
      rintro e w2 ⟨rfl, hb⟩
      rw [HM.out]
      generalize modelR an b s = x
      have hb2 : Below w.heap.size w w2 := (below_drewN (Below.refl _ w) q).trans hb
      clear hb
      cases x <;>
      · go_wp2
        go_ret
        exact ⟨rfl, hb2⟩
    · go_wp2
      all_goals go_ret
      all_goals exact ⟨rfl, Below.refl _ _⟩
end Go.Proofs.Qxb6600232a
