/-
  THE WALK OF robots.matches: it computes 'Glob.mat'.
-/
import Derived.Test.Qxb6600232aShelf
import Derived.Test.Qxb6600232aGreedy
import Derived.WalkKit
import Derived.ProofKit
import Derived.WalkSmall
import Derived.WalkSpells
import Derived.WalkLawsBesides
import Derived.Deep.DeepMust
import Derived.Deep.Draws
import Derived.Below
import Derived.Deep.LoopGhost
namespace Go.Proofs.Qxb6600232a
open Go.RowKit Go.Proofs.Qxb6600232a.Glob
set_option linter.unusedVariables false

theorem size_list (h : ByteArray) : h.data.toList.length = h.size := by simp
theorem ne_empty (h : ByteArray) (h0 : 0 < h.size) : h.toList.isEmpty = false := by
  rw [Lib.toList_data, List.isEmpty_eq_false_iff]
  intro e
  have := congrArg List.length e
  rw [size_list, List.length_nil] at this
  omega
theorem is_empty (h : ByteArray) (h0 : ¬ 0 < h.size) : h.toList.isEmpty = true := by
  rw [Lib.toList_data, List.isEmpty_iff, ← List.length_eq_zero_iff, size_list]
  omega
theorem below_drewN {B : Nat} {a w : World} (h : Below B a w) (n : Nat) : Below B a (w.drewN n) := h.trans ⟨rfl, rfl, rfl, Nat.le_refl _, fun _ _ => rfl⟩
theorem tail_list (s : ByteArray) (k : Nat) : (s.extract k s.size).data.toList = s.data.toList.drop k := by
  rw [Lib.extract_data, ← size_list, List.take_of_length_le (by rw [List.length_drop]; omega)]
theorem head_list (s : ByteArray) (k : Nat) : (s.extract 0 k).data.toList = s.data.toList.take k := by
  rw [Lib.extract_data, List.drop_zero, Nat.sub_zero]
theorem same_bytes {a b : ByteArray} (h : a.data.toList = b.data.toList) : a = b := by rw [← Lib.mk_data a, ← Lib.mk_data b, h]

/-- the literal head, as a string -/
def lpB (p : ByteArray) : ByteArray := ⟨(lpre p.data.toList).toArray⟩
theorem lpB_data (p : ByteArray) : (lpB p).data.toList = lpre p.data.toList := by unfold lpB; simp
theorem lpre_len (l : List UInt8) : (lpre l).length ≤ l.length := by
  unfold lpre
  split
  · exact Lib.trimSuffix_le _ _
  · rw [List.length_take]; omega
theorem lpB_size (p : ByteArray) : (lpB p).size ≤ p.size := by
  rw [← size_list, ← size_list, lpB_data]; exact lpre_len _

set_option maxHeartbeats 1000000 in
theorem lit32 (p : ByteArray) (hp : p.size ≤ 1048576) (w : World) :
    Calls Try.prog 32 #[.string p] w fun e w' => e = .returned (.string (lpB p)) ∧ w = w' := by
  have hge := Lib.indexByte_ge p.data.toList 42
  by_cases h : Lib.indexByte p.data.toList 42 < 0
  · have E : Hid (lpB p = ⟨(Lib.trimSuffix p.data.toList [36]).toArray⟩) := by show _ = _; unfold lpB lpre; rw [if_pos h]
    go_enter Try.func32, Try.ntmps32
    go_wp2_with fail
    refine (Try.strings_IndexByte p 42 _).mono ?_
    rintro e w' ⟨rfl, rfl⟩
    have h' : Lib.indexByte p.data.toList (Int.toNat 42).toUInt8 < 0 := h
    go_wp2_with fail
    refine (Try.strings_TrimSuffix p ⟨#[36]⟩ _ (by omega)).mono ?_
    rintro e w' ⟨rfl, rfl⟩
    go_wp2
    go_ret
    exact ⟨by rw [E.out]; rfl, rfl⟩
  · have hlt : (Lib.indexByte p.data.toList 42).toNat ≤ p.size := by
      rcases idx42 p.data.toList with ⟨h1, _⟩ | ⟨q, t, h1, _, h3⟩
      · exact absurd h1 h
      · rw [h3, Int.toNat_natCast]
        have := congrArg List.length h1
        rw [size_list, List.length_append, List.length_cons] at this
        omega
    have E : Hid (lpB p = p.extract 0 (Lib.indexByte p.data.toList 42).toNat) := by
      show _ = _
      refine same_bytes ?_
      rw [lpB_data, head_list]; unfold lpre; rw [if_neg h]
    go_enter Try.func32, Try.ntmps32
    go_wp2_with fail
    refine (Try.strings_IndexByte p 42 _).mono ?_
    rintro e w' ⟨rfl, rfl⟩
    have e42 : Lib.indexByte p.data.toList (Int.toNat 42).toUInt8 = Lib.indexByte p.data.toList 42 := rfl
    rw [e42]
    obtain ⟨i, hi⟩ : ∃ i : Nat, Lib.indexByte p.data.toList 42 = i := ⟨(Lib.indexByte p.data.toList 42).toNat, by omega⟩
    have E2 : Hid (lpB p = p.extract 0 i) := by have := E.out; rw [hi, Int.toNat_natCast] at this; exact this
    rw [hi] at hlt ⊢
    clear E hge h e42 hi
    have i1 : i ≤ p.size := by simpa using hlt
    clear hlt
    go_wp2
    go_ret
    exact ⟨by rw [E2.out]; rfl, rfl⟩

/-! ### the loop, one step -/
theorem gr_last {anch : Bool} {f : Nat} {rest left pl al : List UInt8} (hc : Lib.cut rest [42] = (pl, al, false)) : gr anch (f + 1) rest left = if anch then Lib.hasSuffix left pl else Lib.contains left pl := by
  conv => lhs; unfold gr
  rw [hc]
  rfl
theorem gr_found {anch : Bool} {f : Nat} {rest left pl al : List UInt8} (hc : Lib.cut rest [42] = (pl, al, true)) : gr anch (f + 1) rest left = if Lib.index left pl < 0 then false else gr anch f al (left.drop ((Lib.index left pl).toNat + pl.length)) := by
  conv => lhs; unfold gr
  rw [hc]
  rfl
theorem cut_len {rest pl al : List UInt8} (hc : Lib.cut rest [42] = (pl, al, true)) : al.length < rest.length ∧ pl.length ≤ rest.length := by
  rcases cut_star rest with ⟨h, _⟩ | ⟨p, a, h, h2, _⟩
  · rw [hc] at h; simp at h
  · rw [hc] at h
    simp only [Prod.mk.injEq, and_true] at h
    obtain ⟨rfl, rfl⟩ := h
    have := congrArg List.length h2
    rw [List.length_append, List.length_cons] at this
    omega
theorem idx_room {left pl : List UInt8} {i : Nat} (h : Lib.index left pl = i) : i + pl.length ≤ left.length := by
  rcases Lib.index_spec left pl with ⟨h1, _⟩ | ⟨j, h1, h2, h3, _⟩
  · rw [h1] at h; omega
  · rw [h1] at h
    obtain rfl : j = i := by omega
    unfold Lib.occAt at h3
    have := prefix_le h3
    rw [List.length_drop] at this
    omega

/-- only the order was drawn -/
def Drew (w w' : World) : Prop := ∃ n, w' = w.drewN n
/-- what is asked of the loop's two strings -/
def Bnd (f : Nat) (rt lf : ByteArray) : Prop := rt.size < f ∧ rt.size ≤ 1048576 ∧ lf.size ≤ 1048576

set_option maxHeartbeats 4000000 in
theorem match25 (p s : ByteArray) (m : Int) (w : World) (hp : p.size ≤ 1048576) (hs : s.size ≤ 1048576) (hm : w.cell? ⟨0, 0, none⟩ = some (.int .i64 m)) :
    Calls Try.prog 25 #[.string p, .string s] w fun e w' => e = .returned (.bool (mat p.data.toList s.data.toList)) ∧ Drew w w' := by
  have HMX : Hid (∀ q, (w.drewN q).cell? ⟨0, 0, none⟩ = some (.int .i64 m)) := fun q => hm
  clear hm
  go_enter Try.func25, Try.ntmps25
  go_wp2_with fail
  refine (lit32 p hp _).mono ?_
  rintro e w' ⟨rfl, rfl⟩
  go_wp2_with fail
  refine (Try.strings_HasPrefix s (lpB p) _).mono ?_
  rintro e w' ⟨rfl, rfl⟩
  rw [lpB_data]
  have k1 := lpB_size p
  have LD := lpB_data p
  cases hpre : Lib.hasPrefix s.data.toList (lpre p.data.toList) with
  | false =>
    have MF : Hid (mat p.data.toList s.data.toList = false) := by show _ = _; unfold mat; rw [hpre]; rfl
    clear LD hpre
    go_wp2
    go_ret
    exact ⟨by rw [MF.out]; rfl, ⟨0, rfl⟩⟩
  | true =>
    have k2 : (lpB p).size ≤ s.size := by
      rw [← size_list, ← size_list, LD]
      unfold Lib.hasPrefix at hpre
      exact prefix_le hpre
    have kl : (lpre p.data.toList).length = (lpB p).size := by rw [← LD, size_list]
    have M0 : mat p.data.toList s.data.toList = if (Lib.trimSuffix (p.data.toList.drop (lpB p).size) [36]).isEmpty then !Lib.hasSuffix (p.data.toList.drop (lpB p).size) [36] || (s.data.toList.drop (lpB p).size).isEmpty
        else gr (Lib.hasSuffix (p.data.toList.drop (lpB p).size) [36]) ((Lib.trimSuffix (p.data.toList.drop (lpB p).size) [36]).length + 1) ((Lib.trimSuffix (p.data.toList.drop (lpB p).size) [36]).drop 1) (s.data.toList.drop (lpB p).size) := by
      unfold mat; rw [hpre, if_pos rfl, kl]
    clear hpre kl LD
    generalize lpB p = lp at k1 k2 M0 ⊢
    have MX : Hid (mat p.data.toList s.data.toList = if (Lib.trimSuffix (p.data.toList.drop lp.size) [36]).isEmpty then !Lib.hasSuffix (p.data.toList.drop lp.size) [36] || (s.data.toList.drop lp.size).isEmpty
        else gr (Lib.hasSuffix (p.data.toList.drop lp.size) [36]) ((Lib.trimSuffix (p.data.toList.drop lp.size) [36]).length + 1) ((Lib.trimSuffix (p.data.toList.drop lp.size) [36]).drop 1) (s.data.toList.drop lp.size)) := M0
    clear M0
    go_wp2_with fail
    refine (Try.strings_CutSuffix (p.extract lp.size p.size) ⟨#[36]⟩ _ (by rw [ByteArray.size_extract]; omega)).mono ?_
    rintro e w' ⟨rfl, rfl⟩
    have tl : Lib.trimSuffix (p.extract lp.size p.size).data.toList (⟨#[36]⟩ : ByteArray).data.toList = Lib.trimSuffix (p.data.toList.drop lp.size) [36] := by rw [tail_list]
    have sl : Lib.hasSuffix (p.extract lp.size p.size).data.toList (⟨#[36]⟩ : ByteArray).data.toList = Lib.hasSuffix (p.data.toList.drop lp.size) [36] := by rw [tail_list]
    rw [tl, sl]
    obtain ⟨R, hR⟩ : ∃ R : ByteArray, (⟨(Lib.trimSuffix (p.data.toList.drop lp.size) [36]).toArray⟩ : ByteArray) = R := ⟨_, rfl⟩
    have hRd : Lib.trimSuffix (p.data.toList.drop lp.size) [36] = R.data.toList := by rw [← hR]
    have hRs : R.size ≤ 1048576 := by
      rw [← size_list, ← hRd]
      have := Lib.trimSuffix_le (p.data.toList.drop lp.size) [36]
      rw [List.length_drop, size_list] at this
      omega
    rw [hR]
    obtain ⟨an, han⟩ : ∃ an, Lib.hasSuffix (p.data.toList.drop lp.size) [36] = an := ⟨_, rfl⟩
    obtain ⟨lf0, hlf⟩ : ∃ lf0, s.extract lp.size s.size = lf0 := ⟨_, rfl⟩
    have hld : s.data.toList.drop lp.size = lf0.data.toList := by rw [← hlf, tail_list]
    have hls : lf0.size ≤ 1048576 := by rw [← hlf, ByteArray.size_extract]; omega
    have M1 := MX.out
    rw [hRd, han, hld] at M1
    rw [han, hlf]
    obtain ⟨res, hres⟩ : ∃ res, mat p.data.toList s.data.toList = res := ⟨_, rfl⟩
    rw [hres] at M1
    have HRES : Hid (mat p.data.toList s.data.toList = res) := hres
    have M2 : Hid (res = if R.data.toList.isEmpty then !an || lf0.data.toList.isEmpty else gr an (R.data.toList.length + 1) (R.data.toList.drop 1) lf0.data.toList) := M1
    clear MX M1 tl sl hR hRd han hlf hld hres k1 k2 hp hs
    by_cases hR0 : 0 < R.size
    · have re := ne_empty R hR0
      have M3 : Hid (gr an (R.size + 1) (R.extract 1 R.size).data.toList lf0.data.toList = res) := by
        show _ = _
        rw [M2.out, tail_list, ← Lib.toList_data, if_neg (by rw [re]; simp), Lib.toList_data, size_list]
      clear M2
      go_wp2_with fail
      go_loopg [6, 7] (R.size - 1) (fun g lV rV wr => ∃ (lf rt : ByteArray) (f q : Nat), lV = .string lf ∧ rV = .string rt ∧ g = rt.size ∧ wr = w'.drewN q ∧ Hid (Bnd f rt lf) ∧ Hid (gr an f rt.data.toList lf.data.toList = res))
      case atStart =>
        refine ⟨lf0, R.extract 1 R.size, R.size + 1, 0, rfl, rfl, ?_, rfl, ⟨?_, ?_, hls⟩, M3.out⟩
        · rw [ByteArray.size_extract]; omega
        · rw [ByteArray.size_extract]; omega
        · rw [ByteArray.size_extract]; omega
      case round =>
        clear M3 re
        obtain ⟨lf, rt, f, q, rfl, rfl, rfl, rfl, HB, HG⟩ := hrel
        obtain ⟨b1, b2, b3⟩ := HB.out
        obtain ⟨f', rfl⟩ : ∃ f', f = f' + 1 := ⟨f - 1, by omega⟩
        go_wp2_with fail
        refine (Try.strings_Cut rt ⟨#[42]⟩ m _ (by omega) (HMX.out q)).mono ?_
        rintro e w'' ⟨rfl, q', rfl⟩
        rcases hc : Lib.cut rt.data.toList [42] with ⟨pl, al, fb⟩
        dsimp only
        obtain ⟨P, hP⟩ : ∃ P : ByteArray, (⟨pl.toArray⟩ : ByteArray) = P := ⟨_, rfl⟩
        obtain ⟨A, hA⟩ : ∃ A : ByteArray, (⟨al.toArray⟩ : ByteArray) = A := ⟨_, rfl⟩
        have hPd : pl = P.data.toList := by rw [← hP]
        have hAd : al = A.data.toList := by rw [← hA]
        rw [hP, hA]
        rw [hPd, hAd] at hc
        cases fb with
        | false =>
          have hg := HG.out
          rw [gr_last hc] at hg
          clear hc hP hA hPd hAd HG HB
          cases an with
          | true =>
            have H2 : Hid (Lib.hasSuffix lf.data.toList P.data.toList = res) := hg
            clear hg
            go_wp2_with (go_at_call 36; go_must (refine (Try.strings_HasSuffix lf P _ (by omega)).mono ?_; rintro e w3 ⟨rfl, rfl⟩; rw [H2.out]))
            go_ret
            exact ⟨by rw [HRES.out]; rfl, ⟨_, rfl⟩⟩
          | false =>
            have H2 : Hid (Lib.contains lf.data.toList P.data.toList = res) := hg
            clear hg
            go_wp2_with (go_at_call 37; go_must (refine (Try.strings_Contains lf P m _ (by omega) (by first | exact HMX.out _ | (simp; exact HMX.out _))).mono ?_; rintro e w3 ⟨rfl, rfl⟩; rw [H2.out]))
            go_ret
            exact ⟨by rw [HRES.out]; rfl, ⟨_, rfl⟩⟩
        | true =>
          have hg := HG.out
          rw [gr_found hc] at hg
          obtain ⟨c1, c2⟩ := cut_len hc
          rw [size_list, size_list] at c1 c2
          clear hc hP hA hPd hAd HG HB
          by_cases hi : Lib.index lf.data.toList P.data.toList < 0
          · rw [if_pos hi] at hg
            have H2 : Hid (false = res) := hg
            have HI : Hid (Lib.index lf.data.toList P.data.toList < 0) := hi
            clear hg hi
            go_wp2_with (go_at_call 38; go_must (refine (Try.strings_Index lf P m _ (by omega) (by first | exact HMX.out _ | (simp; exact HMX.out _))).mono ?_; rintro e w3 ⟨rfl, rfl⟩; have hi := HI.out))
            go_ret
            exact ⟨by rw [HRES.out, ← H2.out]; rfl, ⟨_, rfl⟩⟩
          · obtain ⟨i, ie⟩ : ∃ i : Nat, Lib.index lf.data.toList P.data.toList = i := ⟨(Lib.index lf.data.toList P.data.toList).toNat, by omega⟩
            have room := idx_room ie
            rw [size_list, size_list] at room
            rw [if_neg hi, ie, Int.toNat_natCast, size_list, ← tail_list] at hg
            have IE : Hid (Lib.index lf.data.toList P.data.toList = i) := ie
            have H2 : Hid (gr an f' A.data.toList (lf.extract (i + P.size) lf.size).data.toList = res) := hg
            clear hg hi ie
            go_wp2_with (go_at_call 38; go_must (refine (Try.strings_Index lf P m _ (by omega) (by first | exact HMX.out _ | (simp; exact HMX.out _))).mono ?_; rintro e w3 ⟨rfl, rfl⟩; rw [IE.out]))
            go_roundg A.size
            case measure => omega
            case rel => exact ⟨_, A, f', _, rfl, rfl, rfl, by first | rfl | (simp; rfl), ⟨by omega, by omega, by rw [ByteArray.size_extract]; omega⟩, H2⟩
    · have re := is_empty R hR0
      cases an with
      | false =>
        have M3 : Hid (res = true) := by show _ = _; rw [M2.out, ← Lib.toList_data, re]; rfl
        clear M2
        go_wp2
        go_ret
        exact ⟨by rw [HRES.out, M3.out]; rfl, ⟨0, rfl⟩⟩
      | true =>
        have M3 : Hid (res = lf0.toList.isEmpty) := by show _ = _; rw [M2.out, ← Lib.toList_data, re, ← Lib.toList_data]; rfl
        clear M2
        go_wp2
        go_ret
        exact ⟨by rw [HRES.out, M3.out]; rfl, ⟨0, rfl⟩⟩
end Go.Proofs.Qxb6600232a
