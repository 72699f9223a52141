/-
  No cell of these rows narrows 'for every input' (looked for: loops, veiled, ifaces, maps, wideKeys, modest, calm, conditions, laid).
  DERIVED. THE GIVEN ROWS OF THIS SEAT. 6 by the template 'for every input the law returns true; each argument reads behind the call as it read before'; 0 by the template 'total and deterministic' (their statements: Qxb6600232aTotals.lean).
  GIVEN WITH THE SEED: the statements are not yours to turn. If you find one false, say at which input.
  Laid BY PROGRAM, IN A SANDBOX (cutbox-rows.mjs): the forced cells as the released guide's own fill.sh prints them over the translation 7ee98b0153cf6bf3… (all of the seat's roots in one cut). By AI agents, Wed Nov 11 2026. No macro, syntax, notation, axiom, sorry.
-/
import Derived.Test.Qxb6600232aChecked
import GoSem.Claim
import GoSem.ClaimJoined
import GoSem.ClaimMapViews
import Derived.JoinedTies
import Derived.KernelRfl
namespace Go.Proofs.Qxb6600232a
/- THE CELL 'sum', in the pinned program and in every row, IS THE sha256 OF THE DUMP (.gsa) THAT Qxb6600232aProg.lean LOADS. Nothing in Lean hashes anything: it is a label: what it is worth is what the hold of that sum in a sandbox is worth. -/
noncomputable def Try.pinned : Pinned := { name := "qxb6600232a", sum := "7ee98b0153cf6bf35cd1385ec1809233bd80859b60a6d9745381ca85a8bf77c3", checked := Try.checked }
namespace Rows
def none {H : Type} : Left H := { results := [], args := [] }

/-- 'zzlaws_robots_b1.FnEscapePatternLocalModel': WHATEVER THE INPUT: true; the input reads as it did. -/
def fnEscapePatternLocalModelSpec : ChangeSpec := { name := "fnEscapePatternLocalModel", fn := fun _ => fun
  | [d] => { results := [.lit (.bool true)], args := [d] }
  | _ => none }
def fnEscapePatternLocalModelRow : OpenClaim := { program := "qxb6600232a", sum := "7ee98b0153cf6bf35cd1385ec1809233bd80859b60a6d9745381ca85a8bf77c3", func := "example.com/stileward/stileward/zzlaws_robots_b1.FnEscapePatternLocalModel", spec := "fnEscapePatternLocalModel", inPlace := ["internal/abi.NoEscape"], apart := false }
def FnEscapePatternLocalModelSaid : Prop := fnEscapePatternLocalModelRow.holds Try.pinned (OpenSpec.ofChange fnEscapePatternLocalModelSpec)

/-- ITS FALSE NEIGHBOUR: 'it returns false'. Refute it at one input. -/
def fnEscapePatternLocalModelWrong : ChangeSpec := { name := "fnEscapePatternLocalModel", fn := fun _ => fun
  | [d] => { results := [.lit (.bool false)], args := [d] }
  | _ => none }
def FnEscapePatternLocalModelWrongFalsely : Prop := fnEscapePatternLocalModelRow.holds Try.pinned (OpenSpec.ofChange fnEscapePatternLocalModelWrong)

/-- 'zzlaws_robots_b1.FnEscapePatternIdempotent': WHATEVER THE INPUT: true; the input reads as it did. -/
def fnEscapePatternIdempotentSpec : ChangeSpec := { name := "fnEscapePatternIdempotent", fn := fun _ => fun
  | [d] => { results := [.lit (.bool true)], args := [d] }
  | _ => none }
def fnEscapePatternIdempotentRow : OpenClaim := { program := "qxb6600232a", sum := "7ee98b0153cf6bf35cd1385ec1809233bd80859b60a6d9745381ca85a8bf77c3", func := "example.com/stileward/stileward/zzlaws_robots_b1.FnEscapePatternIdempotent", spec := "fnEscapePatternIdempotent", inPlace := ["internal/abi.NoEscape"], apart := false }
def FnEscapePatternIdempotentSaid : Prop := fnEscapePatternIdempotentRow.holds Try.pinned (OpenSpec.ofChange fnEscapePatternIdempotentSpec)

/-- ITS FALSE NEIGHBOUR: 'it returns false'. Refute it at one input. -/
def fnEscapePatternIdempotentWrong : ChangeSpec := { name := "fnEscapePatternIdempotent", fn := fun _ => fun
  | [d] => { results := [.lit (.bool false)], args := [d] }
  | _ => none }
def FnEscapePatternIdempotentWrongFalsely : Prop := fnEscapePatternIdempotentRow.holds Try.pinned (OpenSpec.ofChange fnEscapePatternIdempotentWrong)

/-- 'zzlaws_robots_b1.FnEscapePatternRawAgreesWithLowerEscaped': WHATEVER THE INPUT: true; the input reads as it did. -/
def fnEscapePatternRawAgreesWithLowerEscapedSpec : ChangeSpec := { name := "fnEscapePatternRawAgreesWithLowerEscaped", fn := fun _ => fun
  | [d] => { results := [.lit (.bool true)], args := [d] }
  | _ => none }
def fnEscapePatternRawAgreesWithLowerEscapedRow : OpenClaim := { program := "qxb6600232a", sum := "7ee98b0153cf6bf35cd1385ec1809233bd80859b60a6d9745381ca85a8bf77c3", func := "example.com/stileward/stileward/zzlaws_robots_b1.FnEscapePatternRawAgreesWithLowerEscaped", spec := "fnEscapePatternRawAgreesWithLowerEscaped", inPlace := ["internal/abi.NoEscape"], apart := false }
def FnEscapePatternRawAgreesWithLowerEscapedSaid : Prop := fnEscapePatternRawAgreesWithLowerEscapedRow.holds Try.pinned (OpenSpec.ofChange fnEscapePatternRawAgreesWithLowerEscapedSpec)

/-- ITS FALSE NEIGHBOUR: 'it returns false'. Refute it at one input. -/
def fnEscapePatternRawAgreesWithLowerEscapedWrong : ChangeSpec := { name := "fnEscapePatternRawAgreesWithLowerEscaped", fn := fun _ => fun
  | [d] => { results := [.lit (.bool false)], args := [d] }
  | _ => none }
def FnEscapePatternRawAgreesWithLowerEscapedWrongFalsely : Prop := fnEscapePatternRawAgreesWithLowerEscapedRow.holds Try.pinned (OpenSpec.ofChange fnEscapePatternRawAgreesWithLowerEscapedWrong)

/-- 'zzlaws_robots_b1.FnMatchesGlobModel': WHATEVER THE INPUT: true; the input reads as it did. -/
def fnMatchesGlobModelSpec : ChangeSpec := { name := "fnMatchesGlobModel", fn := fun _ => fun
  | [d1, d2] => { results := [.lit (.bool true)], args := [d1, d2] }
  | _ => none }
def fnMatchesGlobModelRow : OpenClaim := { program := "qxb6600232a", sum := "7ee98b0153cf6bf35cd1385ec1809233bd80859b60a6d9745381ca85a8bf77c3", func := "example.com/stileward/stileward/zzlaws_robots_b1.FnMatchesGlobModel", spec := "fnMatchesGlobModel", inPlace := ["internal/bytealg.IndexByteString", "internal/bytealg.IndexString"], named := ["internal/bytealg.MaxLen"], apart := false }
def FnMatchesGlobModelSaid : Prop := fnMatchesGlobModelRow.holds Try.pinned (OpenSpec.ofChange fnMatchesGlobModelSpec)

/-- ITS FALSE NEIGHBOUR: 'it returns false'. Refute it at one input. -/
def fnMatchesGlobModelWrong : ChangeSpec := { name := "fnMatchesGlobModel", fn := fun _ => fun
  | [d1, d2] => { results := [.lit (.bool false)], args := [d1, d2] }
  | _ => none }
def FnMatchesGlobModelWrongFalsely : Prop := fnMatchesGlobModelRow.holds Try.pinned (OpenSpec.ofChange fnMatchesGlobModelWrong)

/-- 'zzlaws_robots_b1.FnMatchesUnanchoredExtends': WHATEVER THE INPUT: true; the input reads as it did. -/
def fnMatchesUnanchoredExtendsSpec : ChangeSpec := { name := "fnMatchesUnanchoredExtends", fn := fun _ => fun
  | [d1, d2, d3] => { results := [.lit (.bool true)], args := [d1, d2, d3] }
  | _ => none }
def fnMatchesUnanchoredExtendsRow : OpenClaim := { program := "qxb6600232a", sum := "7ee98b0153cf6bf35cd1385ec1809233bd80859b60a6d9745381ca85a8bf77c3", func := "example.com/stileward/stileward/zzlaws_robots_b1.FnMatchesUnanchoredExtends", spec := "fnMatchesUnanchoredExtends", inPlace := ["internal/bytealg.IndexByteString", "internal/bytealg.IndexString"], named := ["internal/bytealg.MaxLen"], apart := false }
def FnMatchesUnanchoredExtendsSaid : Prop := fnMatchesUnanchoredExtendsRow.holds Try.pinned (OpenSpec.ofChange fnMatchesUnanchoredExtendsSpec)

/-- ITS FALSE NEIGHBOUR: 'it returns false'. Refute it at one input. -/
def fnMatchesUnanchoredExtendsWrong : ChangeSpec := { name := "fnMatchesUnanchoredExtends", fn := fun _ => fun
  | [d1, d2, d3] => { results := [.lit (.bool false)], args := [d1, d2, d3] }
  | _ => none }
def FnMatchesUnanchoredExtendsWrongFalsely : Prop := fnMatchesUnanchoredExtendsRow.holds Try.pinned (OpenSpec.ofChange fnMatchesUnanchoredExtendsWrong)

/-- 'zzlaws_robots_b1.FnMatchesStarWidens': WHATEVER THE INPUT: true; the input reads as it did. -/
def fnMatchesStarWidensSpec : ChangeSpec := { name := "fnMatchesStarWidens", fn := fun _ => fun
  | [d1, d2, d3] => { results := [.lit (.bool true)], args := [d1, d2, d3] }
  | _ => none }
def fnMatchesStarWidensRow : OpenClaim := { program := "qxb6600232a", sum := "7ee98b0153cf6bf35cd1385ec1809233bd80859b60a6d9745381ca85a8bf77c3", func := "example.com/stileward/stileward/zzlaws_robots_b1.FnMatchesStarWidens", spec := "fnMatchesStarWidens", inPlace := ["internal/bytealg.IndexByteString", "internal/bytealg.IndexString"], named := ["internal/bytealg.MaxLen"], apart := false }
def FnMatchesStarWidensSaid : Prop := fnMatchesStarWidensRow.holds Try.pinned (OpenSpec.ofChange fnMatchesStarWidensSpec)

/-- ITS FALSE NEIGHBOUR: 'it returns false'. Refute it at one input. -/
def fnMatchesStarWidensWrong : ChangeSpec := { name := "fnMatchesStarWidens", fn := fun _ => fun
  | [d1, d2, d3] => { results := [.lit (.bool false)], args := [d1, d2, d3] }
  | _ => none }
def FnMatchesStarWidensWrongFalsely : Prop := fnMatchesStarWidensRow.holds Try.pinned (OpenSpec.ofChange fnMatchesStarWidensWrong)

end Rows
end Go.Proofs.Qxb6600232a
