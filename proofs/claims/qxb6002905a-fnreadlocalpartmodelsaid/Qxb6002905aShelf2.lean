/-
  THE SHELF's CONTRACTS FOR strings.TrimSuffix AND strings.ContainsAny AT THIS PROGRAM: written by the kit's lay-shelf.mjs and lay-plain.mjs; remarks struck.
-/
import Derived.Shelf.Strings.Prefix
import Derived.Shelf.Strings.IndexAnyAll
import Derived.Test.Qxb6002905aProg
namespace Go.Proofs
open Go.Shelf
def Try.lays207_ren : Go.Shelf.Ren := ⟨fun | 207 => 48 | n => n, fun | 9 => 9 | 4 => 4 | 3 => 3 | n => n, fun | n => n⟩
theorem Try.lays207 : Go.Proofs.Lays.n207 Try.prog Try.lays207_ren := {
  mixed := by kernel_rfl
  f207 := Try.func48.trans (congrArg some (by kernel_rfl))
  t3 := Try.underlying3
  a3 := Try.isAgg3
  z3 := Try.sizeOf3
  v3 := Try.zeroValue3
  t4 := Try.underlying4
  a4 := Try.isAgg4
  z4 := Try.sizeOf4
  v4 := Try.zeroValue4
  t9 := Try.underlying9
  a9 := Try.isAgg9
  z9 := Try.sizeOf9
  v9 := Try.zeroValue9 }
open Go.RowKit Go.Lib in
theorem Try.stringslite_HasSuffix (s p : ByteArray) (w : World) (hs : s.size ≤ 9223372036854775807) :
    Calls Try.prog 48 #[.string s, .string p] w fun e w' => e = .returned (.bool (Lib.hasSuffix s.data.toList p.data.toList)) ∧ w' = w := Any.stringslite_HasSuffix Try.lays207 s p w hs
def Try.lays209_ren : Go.Shelf.Ren := ⟨fun | 209 => 43 | 207 => 48 | n => n, fun | 9 => 9 | 4 => 4 | 3 => 3 | n => n, fun | n => n⟩
theorem Try.lays209 : Go.Proofs.Lays.n209 Try.prog Try.lays209_ren := {
  mixed := by kernel_rfl
  f207 := Try.func48.trans (congrArg some (by kernel_rfl))
  f209 := Try.func43.trans (congrArg some (by kernel_rfl))
  t3 := Try.underlying3
  a3 := Try.isAgg3
  z3 := Try.sizeOf3
  v3 := Try.zeroValue3
  t4 := Try.underlying4
  a4 := Try.isAgg4
  z4 := Try.sizeOf4
  v4 := Try.zeroValue4
  t9 := Try.underlying9
  a9 := Try.isAgg9
  z9 := Try.sizeOf9
  v9 := Try.zeroValue9 }
open Go.RowKit Go.Lib in
theorem Try.stringslite_TrimSuffix (s p : ByteArray) (w : World) (hs : s.size ≤ 9223372036854775807) :
    Calls Try.prog 43 #[.string s, .string p] w fun e w' => e = .returned (.string ⟨(Lib.trimSuffix s.data.toList p.data.toList).toArray⟩) ∧ w' = w := Any.stringslite_TrimSuffix Try.lays209 s p w hs
def Try.lays102_ren : Go.Shelf.Ren := ⟨fun | 102 => 37 | 209 => 43 | 207 => 48 | n => n, fun | 9 => 9 | 4 => 4 | 3 => 3 | n => n, fun | n => n⟩
theorem Try.lays102 : Go.Proofs.Lays.n102 Try.prog Try.lays102_ren := {
  mixed := by kernel_rfl
  f102 := Try.func37.trans (congrArg some (by kernel_rfl))
  f207 := Try.func48.trans (congrArg some (by kernel_rfl))
  f209 := Try.func43.trans (congrArg some (by kernel_rfl))
  t3 := Try.underlying3
  a3 := Try.isAgg3
  z3 := Try.sizeOf3
  v3 := Try.zeroValue3
  t4 := Try.underlying4
  a4 := Try.isAgg4
  z4 := Try.sizeOf4
  v4 := Try.zeroValue4
  t9 := Try.underlying9
  a9 := Try.isAgg9
  z9 := Try.sizeOf9
  v9 := Try.zeroValue9 }
open Go.RowKit Go.Lib in
theorem Try.strings_TrimSuffix (s p : ByteArray) (w : World) (hs : s.size ≤ 9223372036854775807) :
    Calls Try.prog 37 #[.string s, .string p] w fun e w' => e = .returned (.string ⟨(Lib.trimSuffix s.data.toList p.data.toList).toArray⟩) ∧ w' = w := Any.strings_TrimSuffix Try.lays102 s p w hs
def Try.lays153_ren : Go.Shelf.Ren := ⟨fun | 153 => 42 | 152 => 44 | 226 => 45 | 227 => 46 | 228 => 47 | 137 => 23 | 119 => 49 | 224 => 50 | 225 => 51 | 217 => 32 | 266 => 38 | n => n, fun | 9 => 9 | 3 => 3 | 4 => 4 | 5 => 5 | 21 => 21 | 117 => 68 | 116 => 67 | 0 => 0 | 46 => 73 | 124 => 74 | n => n, fun | n => n⟩
theorem Try.lays153 : Go.Proofs.Lays.n153 Try.prog Try.lays153_ren := {
  mixed := by kernel_rfl
  f119 := Try.func49.trans (congrArg some (by kernel_rfl))
  f137 := Try.func23.trans (congrArg some (by kernel_rfl))
  f152 := Try.func44.trans (congrArg some (by kernel_rfl))
  f153 := Try.func42.trans (congrArg some (by kernel_rfl))
  f217 := Try.func32.trans (congrArg some (by kernel_rfl))
  f224 := Try.func50.trans (congrArg some (by kernel_rfl))
  f225 := Try.func51.trans (congrArg some (by kernel_rfl))
  f226 := Try.func45.trans (congrArg some (by kernel_rfl))
  f227 := Try.func46.trans (congrArg some (by kernel_rfl))
  f228 := Try.func47.trans (congrArg some (by kernel_rfl))
  f266 := Try.func38.trans (congrArg some (by kernel_rfl))
  t0 := Try.underlying0
  a0 := Try.isAgg0
  z0 := Try.sizeOf0
  v0 := Try.zeroValue0
  t3 := Try.underlying3
  a3 := Try.isAgg3
  z3 := Try.sizeOf3
  v3 := Try.zeroValue3
  t4 := Try.underlying4
  a4 := Try.isAgg4
  z4 := Try.sizeOf4
  v4 := Try.zeroValue4
  t5 := Try.underlying5
  a5 := Try.isAgg5
  z5 := Try.sizeOf5
  v5 := Try.zeroValue5
  t9 := Try.underlying9
  a9 := Try.isAgg9
  z9 := Try.sizeOf9
  v9 := Try.zeroValue9
  t21 := Try.underlying21
  a21 := Try.isAgg21
  z21 := Try.sizeOf21
  v21 := Try.zeroValue21
  t46 := Try.underlying73
  a46 := Try.isAgg73
  z46 := Try.sizeOf73
  v46 := Try.zeroValue73
  t116 := Try.underlying67
  a116 := Try.isAgg67
  z116 := Try.sizeOf67
  t117 := Try.underlying68
  a117 := Try.isAgg68
  z117 := Try.sizeOf68
  v117 := Try.zeroValue68
  t124 := Try.underlying74
  a124 := Try.isAgg74
  z124 := Try.sizeOf74
  v124 := Try.zeroValue74 }
open Go.RowKit Go.Lib in
theorem Try.strings_IndexAny_long (hv116 : ∀ w, (zeroValue 67).run Try.prog w = .ok (.agg (Array.replicate 256 (.bool false))) w) (s chars : ByteArray) (w : World) (h2 : 2 ≤ chars.size) (h8 : 8 < s.size) (hs : s.size < 4294967281) (hcs : chars.size < 4294967281) (hascii : ∀ (j : Nat) b, chars.data.toList[j]? = some b → b.toNat < 128) :
    Calls Try.prog 42 #[.string s, .string chars] w fun e w' => e = .returned (.int .i64 (Lib.indexAny s.data.toList chars.data.toList)) ∧ w' = ((w.alloc (.cells (Lib.setCells chars.data.toList) 67)).alloc (.cells (Lib.setCells chars.data.toList) 67)) := Any.strings_IndexAny_long Try.lays153 hv116 (by kernel_rfl) s chars w h2 h8 hs hcs hascii
open Go.RowKit Go.Lib in
theorem Try.strings_IndexAny (hv116 : ∀ w, (zeroValue 67).run Try.prog w = .ok (.agg (Array.replicate 256 (.bool false))) w) (s chars : ByteArray) (w : World) (hs : s.size < 4294967281) (hcs : chars.size < 4294967281) (has : ∀ (j : Nat) b, s.data.toList[j]? = some b → b.toNat < 128) (hac : ∀ (j : Nat) b, chars.data.toList[j]? = some b → b.toNat < 128) :
    Calls Try.prog 42 #[.string s, .string chars] w fun e w' => e = .returned (.int .i64 (Lib.indexAny s.data.toList chars.data.toList)) ∧ Below w.heap.size w w' := Any.strings_IndexAny Try.lays153 hv116 (by kernel_rfl) s chars w hs hcs has hac
def Try.lays150_ren : Go.Shelf.Ren := ⟨fun | 150 => 36 | 153 => 42 | 152 => 44 | 226 => 45 | 227 => 46 | 228 => 47 | 137 => 23 | 119 => 49 | 224 => 50 | 225 => 51 | 217 => 32 | 266 => 38 | n => n, fun | 9 => 9 | 4 => 4 | 3 => 3 | 5 => 5 | 21 => 21 | 117 => 68 | 116 => 67 | 0 => 0 | 46 => 73 | 124 => 74 | n => n, fun | n => n⟩
theorem Try.lays150 : Go.Proofs.Lays.n150 Try.prog Try.lays150_ren := {
  mixed := by kernel_rfl
  f119 := Try.func49.trans (congrArg some (by kernel_rfl))
  f137 := Try.func23.trans (congrArg some (by kernel_rfl))
  f150 := Try.func36.trans (congrArg some (by kernel_rfl))
  f152 := Try.func44.trans (congrArg some (by kernel_rfl))
  f153 := Try.func42.trans (congrArg some (by kernel_rfl))
  f217 := Try.func32.trans (congrArg some (by kernel_rfl))
  f224 := Try.func50.trans (congrArg some (by kernel_rfl))
  f225 := Try.func51.trans (congrArg some (by kernel_rfl))
  f226 := Try.func45.trans (congrArg some (by kernel_rfl))
  f227 := Try.func46.trans (congrArg some (by kernel_rfl))
  f228 := Try.func47.trans (congrArg some (by kernel_rfl))
  f266 := Try.func38.trans (congrArg some (by kernel_rfl))
  t0 := Try.underlying0
  a0 := Try.isAgg0
  z0 := Try.sizeOf0
  v0 := Try.zeroValue0
  t3 := Try.underlying3
  a3 := Try.isAgg3
  z3 := Try.sizeOf3
  v3 := Try.zeroValue3
  t4 := Try.underlying4
  a4 := Try.isAgg4
  z4 := Try.sizeOf4
  v4 := Try.zeroValue4
  t5 := Try.underlying5
  a5 := Try.isAgg5
  z5 := Try.sizeOf5
  v5 := Try.zeroValue5
  t9 := Try.underlying9
  a9 := Try.isAgg9
  z9 := Try.sizeOf9
  v9 := Try.zeroValue9
  t21 := Try.underlying21
  a21 := Try.isAgg21
  z21 := Try.sizeOf21
  v21 := Try.zeroValue21
  t46 := Try.underlying73
  a46 := Try.isAgg73
  z46 := Try.sizeOf73
  v46 := Try.zeroValue73
  t116 := Try.underlying67
  a116 := Try.isAgg67
  z116 := Try.sizeOf67
  t117 := Try.underlying68
  a117 := Try.isAgg68
  z117 := Try.sizeOf68
  v117 := Try.zeroValue68
  t124 := Try.underlying74
  a124 := Try.isAgg74
  z124 := Try.sizeOf74
  v124 := Try.zeroValue74 }
open Go.RowKit Go.Lib in
theorem Try.strings_ContainsAny (hv116 : ∀ w, (zeroValue 67).run Try.prog w = .ok (.agg (Array.replicate 256 (.bool false))) w) (s chars : ByteArray) (w : World) (hs : s.size < 4294967281) (hcs : chars.size < 4294967281) (has : ∀ (j : Nat) b, s.data.toList[j]? = some b → b.toNat < 128) (hac : ∀ (j : Nat) b, chars.data.toList[j]? = some b → b.toNat < 128) :
    Calls Try.prog 36 #[.string s, .string chars] w fun e w' => e = .returned (.bool (Lib.containsAny s.data.toList chars.data.toList)) ∧ Below w.heap.size w w' := Any.strings_ContainsAny Try.lays150 hv116 (by kernel_rfl) s chars w hs hcs has hac
open Go.RowKit Go.Lib in
theorem Try.strings_IndexAny_laid (s chars : ByteArray) (w : World) (hs : s.size < 4294967281) (hcs : chars.size < 4294967281) (has : ∀ (j : Nat) b, s.data.toList[j]? = some b → b.toNat < 128) (hac : ∀ (j : Nat) b, chars.data.toList[j]? = some b → b.toNat < 128) :
    Calls Try.prog 42 #[.string s, .string chars] w fun e w' => e = .returned (.int .i64 (Lib.indexAny s.data.toList chars.data.toList)) ∧ Below w.heap.size w w' := Any.strings_IndexAny_laid Try.lays153 (by kernel_rfl) s chars w hs hcs has hac
open Go.RowKit Go.Lib in
theorem Try.strings_ContainsAny_laid (s chars : ByteArray) (w : World) (hs : s.size < 4294967281) (hcs : chars.size < 4294967281) (has : ∀ (j : Nat) b, s.data.toList[j]? = some b → b.toNat < 128) (hac : ∀ (j : Nat) b, chars.data.toList[j]? = some b → b.toNat < 128) :
    Calls Try.prog 36 #[.string s, .string chars] w fun e w' => e = .returned (.bool (Lib.containsAny s.data.toList chars.data.toList)) ∧ Below w.heap.size w w' := Any.strings_ContainsAny_laid Try.lays150 (by kernel_rfl) s chars w hs hcs has hac
end Go.Proofs
