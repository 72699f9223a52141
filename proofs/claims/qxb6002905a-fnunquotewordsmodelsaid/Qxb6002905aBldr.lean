/-
  (*strings.Builder).WriteByte, WriteString AT THIS PROGRAM: the shelf's contracts, laid by hand (the kit's command does not lay them here: it finds no body that names types 9 and 20; their numbers are given in the table 'bren').
-/
import Derived.Test.Qxb6002905aShelf
import Derived.Test.Qxb6002905aModl
namespace Go.Proofs.Qxb6002905a
open Go.RowKit
set_option linter.unusedVariables false

def bren : Go.Shelf.Ren := ⟨fun | 166 => 28 | 167 => 27 | 240 => 33 | 276 => 39 | n => n, fun | 70 => 43 | 3 => 3 | 0 => 0 | 4 => 4 | 9 => 9 | 20 => 20 | 72 => 45 | 37 => 39 | 164 => 60 | 5 => 5 | 75 => 48 | 80 => 52 | n => n, fun | n => n⟩
theorem bl167 : Go.Proofs.Lays.n167 Try.prog bren := {
  mixed := by kernel_rfl
  f167 := Try.func27.trans (congrArg some (by kernel_rfl))
  f240 := Try.func33.trans (congrArg some (by kernel_rfl))
  f276 := Try.func39.trans (congrArg some (by kernel_rfl))
  t0 := Try.underlying0
  a0 := Try.isAgg0
  z0 := Try.sizeOf0
  v0 := Try.zeroValue0
  t4 := Try.underlying4
  a4 := Try.isAgg4
  z4 := Try.sizeOf4
  v4 := Try.zeroValue4
  t5 := Try.underlying5
  a5 := Try.isAgg5
  z5 := Try.sizeOf5
  v5 := Try.zeroValue5
  t9 := Try.underlying9
  a9 := Try.isAgg9
  z9 := Try.sizeOf9
  v9 := Try.zeroValue9
  t20 := Try.underlying20
  a20 := Try.isAgg20
  z20 := Try.sizeOf20
  v20 := Try.zeroValue20
  t37 := Try.underlying39
  a37 := Try.isAgg39
  z37 := Try.sizeOf39
  v37 := Try.zeroValue39
  t70 := Try.underlying43
  a70 := Try.isAgg43
  z70 := Try.sizeOf43
  v70 := Try.zeroValue43
  t72 := Try.underlying45
  a72 := Try.isAgg45
  z72 := Try.sizeOf45
  v72 := Try.zeroValue45
  t75 := Try.underlying48
  a75 := Try.isAgg48
  z75 := Try.sizeOf48
  v75 := Try.zeroValue48
  t164 := Try.underlying60
  a164 := Try.isAgg60
  z164 := Try.sizeOf60
  v164 := Try.zeroValue60 }
theorem bl166 : Go.Proofs.Lays.n166 Try.prog bren := {
  mixed := by kernel_rfl
  f166 := Try.func28.trans (congrArg some (by kernel_rfl))
  f240 := Try.func33.trans (congrArg some (by kernel_rfl))
  f276 := Try.func39.trans (congrArg some (by kernel_rfl))
  t0 := Try.underlying0
  a0 := Try.isAgg0
  z0 := Try.sizeOf0
  v0 := Try.zeroValue0
  t3 := Try.underlying3
  a3 := Try.isAgg3
  z3 := Try.sizeOf3
  v3 := Try.zeroValue3
  t4 := Try.underlying4
  a4 := Try.isAgg4
  z4 := Try.sizeOf4
  v4 := Try.zeroValue4
  t9 := Try.underlying9
  a9 := Try.isAgg9
  z9 := Try.sizeOf9
  v9 := Try.zeroValue9
  t20 := Try.underlying20
  a20 := Try.isAgg20
  z20 := Try.sizeOf20
  v20 := Try.zeroValue20
  t37 := Try.underlying39
  a37 := Try.isAgg39
  z37 := Try.sizeOf39
  v37 := Try.zeroValue39
  t70 := Try.underlying43
  a70 := Try.isAgg43
  z70 := Try.sizeOf43
  v70 := Try.zeroValue43
  t72 := Try.underlying45
  a72 := Try.isAgg45
  z72 := Try.sizeOf45
  v72 := Try.zeroValue45
  t75 := Try.underlying48
  a75 := Try.isAgg48
  z75 := Try.sizeOf48
  v75 := Try.zeroValue48
  t164 := Try.underlying60
  a164 := Try.isAgg60
  z164 := Try.sizeOf60
  v164 := Try.zeroValue60 }
theorem bextra : Builder.Extra Try.prog bren := {
  sizeBuilder := by kernel_rfl
  liesBuilder := by kernel_rfl
  t5 := Try.underlying5
  a5 := Try.isAgg5
  z5 := Try.sizeOf5
  v5 := Try.zeroValue5
  infoByte := by kernel_rfl
  cellsByte := by kernel_rfl
  sizeByte := by kernel_rfl
  neB5 := by decide }

theorem writeByte_any (B b : Nat) (bs : List Value) (c : Int) (w : World) (h : Lib.IsBuilder 45 5 B b bs w) (hlen : bs.length + 1 ≤ 140737488355328) (hBw : B ≤ w.heap.size) :
    Calls Try.prog 27 #[.pointer (some ⟨b, 0, none⟩), .int .u8 c] w fun e w' => e = .returned .nilIface ∧ (Lib.BuilderAt 45 5 B b (.pointer (some ⟨b, 0, none⟩)) (bs ++ [.int .u8 c]) w' ∧ Below B w w') :=
  Any.Builder_WriteByte bl167 bextra B b bs c w h hlen hBw

theorem writeString_any (B b : Nat) (bs : List Value) (s : ByteArray) (w : World) (h : Lib.IsBuilder 45 5 B b bs w) (hlen : bs.length + s.size ≤ 140737488355328) (hBw : B ≤ w.heap.size) :
    Calls Try.prog 28 #[.pointer (some ⟨b, 0, none⟩), .string s] w fun e w' => e = .returned (.tuple #[.int .i64 s.size, .nilIface]) ∧ (Lib.BuilderAt 45 5 B b (.pointer (some ⟨b, 0, none⟩)) (bs ++ Lib.strCells s) w' ∧ Below B w w') :=
  Any.Builder_WriteString bl166 bextra B b bs s w h hlen hBw
end Go.Proofs.Qxb6002905a
