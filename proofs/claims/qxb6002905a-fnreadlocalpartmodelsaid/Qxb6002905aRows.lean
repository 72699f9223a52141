/-
  No cell of these rows narrows 'for every input' (looked for: loops, veiled, ifaces, maps, wideKeys, modest, calm, conditions, laid).
  DERIVED. THE GIVEN ROWS OF THIS SEAT. 4 by the template 'for every input the law returns true; each argument reads behind the call as it read before'; 0 by the template 'total and deterministic' (their statements: Qxb6002905aTotals.lean).
  GIVEN WITH THE SEED: the statements are not yours to turn. If you find one false, say at which input.
  Laid BY PROGRAM, IN A SANDBOX (cutbox-rows.mjs): the forced cells as the released guide's own fill.sh prints them over the translation 879d3d48f82a9419… (all of the seat's roots in one cut). By AI agents, Wed Nov 11 2026. No macro, syntax, notation, axiom, sorry.
-/
import Derived.Test.Qxb6002905aChecked
import GoSem.Claim
import GoSem.ClaimJoined
import GoSem.ClaimMapViews
import Derived.JoinedTies
import Derived.KernelRfl
namespace Go.Proofs.Qxb6002905a
/- THE CELL 'sum', in the pinned program and in every row, IS THE sha256 OF THE DUMP (.gsa) THAT Qxb6002905aProg.lean LOADS. Nothing in Lean hashes anything: it is a label: what it is worth is what the hold of that sum in a sandbox is worth. -/
noncomputable def Try.pinned : Pinned := { name := "qxb6002905a", sum := "879d3d48f82a9419e6f48c7cc8143c5bf9339e861164a2271b3375ac953836ae", checked := Try.checked }
namespace Rows
def none {H : Type} : Left H := { results := [], args := [] }

/-- 'zzlaws_root_b1.FnUnquoteWordsModel': WHATEVER THE INPUT: true; the input reads as it did. -/
def fnUnquoteWordsModelSpec : ChangeSpec := { name := "fnUnquoteWordsModel", fn := fun _ => fun
  | [d] => { results := [.lit (.bool true)], args := [d] }
  | _ => none }
def fnUnquoteWordsModelRow : OpenClaim := { program := "qxb6002905a", sum := "879d3d48f82a9419e6f48c7cc8143c5bf9339e861164a2271b3375ac953836ae", func := "example.com/addrwright/addrwright/zzlaws_root_b1.FnUnquoteWordsModel", spec := "fnUnquoteWordsModel", inPlace := ["internal/bytealg.IndexByteString", "internal/abi.NoEscape", "internal/bytealg.MakeNoZero"], apart := false }
def FnUnquoteWordsModelSaid : Prop := fnUnquoteWordsModelRow.holds Try.pinned (OpenSpec.ofChange fnUnquoteWordsModelSpec)

/-- ITS FALSE NEIGHBOUR: 'it returns false'. Refute it at one input. -/
def fnUnquoteWordsModelWrong : ChangeSpec := { name := "fnUnquoteWordsModel", fn := fun _ => fun
  | [d] => { results := [.lit (.bool false)], args := [d] }
  | _ => none }
def FnUnquoteWordsModelWrongFalsely : Prop := fnUnquoteWordsModelRow.holds Try.pinned (OpenSpec.ofChange fnUnquoteWordsModelWrong)

/-- 'zzlaws_root_b1.FnUnquoteWordsQuoteRoundTrip': WHATEVER THE INPUT: true; the input reads as it did. -/
def fnUnquoteWordsQuoteRoundTripSpec : ChangeSpec := { name := "fnUnquoteWordsQuoteRoundTrip", fn := fun _ => fun
  | [d1, d2, d3] => { results := [.lit (.bool true)], args := [d1, d2, d3] }
  | _ => none }
def fnUnquoteWordsQuoteRoundTripRow : OpenClaim := { program := "qxb6002905a", sum := "879d3d48f82a9419e6f48c7cc8143c5bf9339e861164a2271b3375ac953836ae", func := "example.com/addrwright/addrwright/zzlaws_root_b1.FnUnquoteWordsQuoteRoundTrip", spec := "fnUnquoteWordsQuoteRoundTrip", inPlace := ["internal/bytealg.IndexByteString", "internal/abi.NoEscape", "internal/bytealg.MakeNoZero"], apart := false }
def FnUnquoteWordsQuoteRoundTripSaid : Prop := fnUnquoteWordsQuoteRoundTripRow.holds Try.pinned (OpenSpec.ofChange fnUnquoteWordsQuoteRoundTripSpec)

/-- ITS FALSE NEIGHBOUR: 'it returns false'. Refute it at one input. -/
def fnUnquoteWordsQuoteRoundTripWrong : ChangeSpec := { name := "fnUnquoteWordsQuoteRoundTrip", fn := fun _ => fun
  | [d1, d2, d3] => { results := [.lit (.bool false)], args := [d1, d2, d3] }
  | _ => none }
def FnUnquoteWordsQuoteRoundTripWrongFalsely : Prop := fnUnquoteWordsQuoteRoundTripRow.holds Try.pinned (OpenSpec.ofChange fnUnquoteWordsQuoteRoundTripWrong)

/-- 'zzlaws_root_b1.FnReadLocalPartModel': WHATEVER THE INPUT: true; the input reads as it did. -/
def fnReadLocalPartModelSpec : ChangeSpec := { name := "fnReadLocalPartModel", fn := fun _ => fun
  | [d1, d2, d3, d4] => { results := [.lit (.bool true)], args := [d1, d2, d3, d4] }
  | _ => none }
def fnReadLocalPartModelRow : OpenClaim := { program := "qxb6002905a", sum := "879d3d48f82a9419e6f48c7cc8143c5bf9339e861164a2271b3375ac953836ae", func := "example.com/addrwright/addrwright/zzlaws_root_b1.FnReadLocalPartModel", spec := "fnReadLocalPartModel", inPlace := ["internal/bytealg.IndexByteString", "internal/bytealg.IndexString"], named := ["internal/bytealg.MaxLen"], apart := false }
def FnReadLocalPartModelSaid : Prop := fnReadLocalPartModelRow.holds Try.pinned (OpenSpec.ofChange fnReadLocalPartModelSpec)

/-- ITS FALSE NEIGHBOUR: 'it returns false'. Refute it at one input. -/
def fnReadLocalPartModelWrong : ChangeSpec := { name := "fnReadLocalPartModel", fn := fun _ => fun
  | [d1, d2, d3, d4] => { results := [.lit (.bool false)], args := [d1, d2, d3, d4] }
  | _ => none }
def FnReadLocalPartModelWrongFalsely : Prop := fnReadLocalPartModelRow.holds Try.pinned (OpenSpec.ofChange fnReadLocalPartModelWrong)

/-- 'zzlaws_root_b1.FnReadLocalPartBangPath': WHATEVER THE INPUT: true; the input reads as it did. -/
def fnReadLocalPartBangPathSpec : ChangeSpec := { name := "fnReadLocalPartBangPath", fn := fun _ => fun
  | [d1, d2, d3] => { results := [.lit (.bool true)], args := [d1, d2, d3] }
  | _ => none }
def fnReadLocalPartBangPathRow : OpenClaim := { program := "qxb6002905a", sum := "879d3d48f82a9419e6f48c7cc8143c5bf9339e861164a2271b3375ac953836ae", func := "example.com/addrwright/addrwright/zzlaws_root_b1.FnReadLocalPartBangPath", spec := "fnReadLocalPartBangPath", inPlace := ["internal/bytealg.IndexByteString", "internal/bytealg.IndexString"], named := ["internal/bytealg.MaxLen"], apart := false }
def FnReadLocalPartBangPathSaid : Prop := fnReadLocalPartBangPathRow.holds Try.pinned (OpenSpec.ofChange fnReadLocalPartBangPathSpec)

/-- ITS FALSE NEIGHBOUR: 'it returns false'. Refute it at one input. -/
def fnReadLocalPartBangPathWrong : ChangeSpec := { name := "fnReadLocalPartBangPath", fn := fun _ => fun
  | [d1, d2, d3] => { results := [.lit (.bool false)], args := [d1, d2, d3] }
  | _ => none }
def FnReadLocalPartBangPathWrongFalsely : Prop := fnReadLocalPartBangPathRow.holds Try.pinned (OpenSpec.ofChange fnReadLocalPartBangPathWrong)

end Rows
end Go.Proofs.Qxb6002905a
