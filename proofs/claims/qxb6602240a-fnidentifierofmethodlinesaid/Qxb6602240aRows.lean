/-
  No cell of these rows narrows 'for every input' (looked for: loops, veiled, ifaces, maps, wideKeys, modest, calm, conditions, laid).
  DERIVED. THE GIVEN ROWS OF THIS SEAT. 5 by the template 'for every input the law returns true; each argument reads behind the call as it read before'; 0 by the template 'total and deterministic' (their statements: Qxb6602240aTotals.lean).
  GIVEN WITH THE SEED: the statements are not yours to turn. If you find one false, say at which input.
  Laid BY PROGRAM, IN A SANDBOX (cutbox-rows.mjs): the forced cells as the released guide's own fill.sh prints them over the translation b2a82b032b97acd1… (all of the seat's roots in one cut). By AI agents, Wed Nov 11 2026. No macro, syntax, notation, axiom, sorry.
-/
import Derived.Test.Qxb6602240aChecked
import GoSem.Claim
import GoSem.ClaimJoined
import GoSem.ClaimMapViews
import Derived.JoinedTies
import Derived.KernelRfl
namespace Go.Proofs.Qxb6602240a
/- THE CELL 'sum', in the pinned program and in every row, IS THE sha256 OF THE DUMP (.gsa) THAT Qxb6602240aProg.lean LOADS. Nothing in Lean hashes anything: it is a label: what it is worth is what the hold of that sum in a sandbox is worth. -/
noncomputable def Try.pinned : Pinned := { name := "qxb6602240a", sum := "b2a82b032b97acd14bd5c4b06c4f58896c93c4565bc70d43e6558567d9e8527e", checked := Try.checked }
namespace Rows
def none {H : Type} : Left H := { results := [], args := [] }

/-- 'zzlaws_internal_apitest_b1.FnIdentifierOfMethodLine': WHATEVER THE INPUT: true; the input reads as it did. -/
def fnIdentifierOfMethodLineSpec : ChangeSpec := { name := "fnIdentifierOfMethodLine", fn := fun _ => fun
  | [d1, d2, d3, d4, d5] => { results := [.lit (.bool true)], args := [d1, d2, d3, d4, d5] }
  | _ => none }
def fnIdentifierOfMethodLineRow : OpenClaim := { program := "qxb6602240a", sum := "b2a82b032b97acd14bd5c4b06c4f58896c93c4565bc70d43e6558567d9e8527e", func := "example.com/moorage/moorage/zzlaws_internal_apitest_b1.FnIdentifierOfMethodLine", spec := "fnIdentifierOfMethodLine", inPlace := ["internal/bytealg.IndexByteString", "internal/bytealg.IndexString"], named := ["internal/bytealg.MaxLen"], apart := false }
def FnIdentifierOfMethodLineSaid : Prop := fnIdentifierOfMethodLineRow.holds Try.pinned (OpenSpec.ofChange fnIdentifierOfMethodLineSpec)

/-- ITS FALSE NEIGHBOUR: 'it returns false'. Refute it at one input. -/
def fnIdentifierOfMethodLineWrong : ChangeSpec := { name := "fnIdentifierOfMethodLine", fn := fun _ => fun
  | [d1, d2, d3, d4, d5] => { results := [.lit (.bool false)], args := [d1, d2, d3, d4, d5] }
  | _ => none }
def FnIdentifierOfMethodLineWrongFalsely : Prop := fnIdentifierOfMethodLineRow.holds Try.pinned (OpenSpec.ofChange fnIdentifierOfMethodLineWrong)

/-- 'zzlaws_internal_apitest_b1.FnIdentifierOfDeclarationLine': WHATEVER THE INPUT: true; the input reads as it did. -/
def fnIdentifierOfDeclarationLineSpec : ChangeSpec := { name := "fnIdentifierOfDeclarationLine", fn := fun _ => fun
  | [d1, d2, d3] => { results := [.lit (.bool true)], args := [d1, d2, d3] }
  | _ => none }
def fnIdentifierOfDeclarationLineRow : OpenClaim := { program := "qxb6602240a", sum := "b2a82b032b97acd14bd5c4b06c4f58896c93c4565bc70d43e6558567d9e8527e", func := "example.com/moorage/moorage/zzlaws_internal_apitest_b1.FnIdentifierOfDeclarationLine", spec := "fnIdentifierOfDeclarationLine", inPlace := ["internal/bytealg.IndexByteString", "internal/bytealg.IndexString"], named := ["internal/bytealg.MaxLen"], apart := false }
def FnIdentifierOfDeclarationLineSaid : Prop := fnIdentifierOfDeclarationLineRow.holds Try.pinned (OpenSpec.ofChange fnIdentifierOfDeclarationLineSpec)

/-- ITS FALSE NEIGHBOUR: 'it returns false'. Refute it at one input. -/
def fnIdentifierOfDeclarationLineWrong : ChangeSpec := { name := "fnIdentifierOfDeclarationLine", fn := fun _ => fun
  | [d1, d2, d3] => { results := [.lit (.bool false)], args := [d1, d2, d3] }
  | _ => none }
def FnIdentifierOfDeclarationLineWrongFalsely : Prop := fnIdentifierOfDeclarationLineRow.holds Try.pinned (OpenSpec.ofChange fnIdentifierOfDeclarationLineWrong)

/-- 'zzlaws_internal_apitest_b1.FnIdentifierIgnoresPointerAndTypeParams': WHATEVER THE INPUT: true; the input reads as it did. -/
def fnIdentifierIgnoresPointerAndTypeParamsSpec : ChangeSpec := { name := "fnIdentifierIgnoresPointerAndTypeParams", fn := fun _ => fun
  | [d1, d2, d3, d4] => { results := [.lit (.bool true)], args := [d1, d2, d3, d4] }
  | _ => none }
def fnIdentifierIgnoresPointerAndTypeParamsRow : OpenClaim := { program := "qxb6602240a", sum := "b2a82b032b97acd14bd5c4b06c4f58896c93c4565bc70d43e6558567d9e8527e", func := "example.com/moorage/moorage/zzlaws_internal_apitest_b1.FnIdentifierIgnoresPointerAndTypeParams", spec := "fnIdentifierIgnoresPointerAndTypeParams", inPlace := ["internal/bytealg.IndexByteString", "internal/bytealg.IndexString"], named := ["internal/bytealg.MaxLen"], apart := false }
def FnIdentifierIgnoresPointerAndTypeParamsSaid : Prop := fnIdentifierIgnoresPointerAndTypeParamsRow.holds Try.pinned (OpenSpec.ofChange fnIdentifierIgnoresPointerAndTypeParamsSpec)

/-- ITS FALSE NEIGHBOUR: 'it returns false'. Refute it at one input. -/
def fnIdentifierIgnoresPointerAndTypeParamsWrong : ChangeSpec := { name := "fnIdentifierIgnoresPointerAndTypeParams", fn := fun _ => fun
  | [d1, d2, d3, d4] => { results := [.lit (.bool false)], args := [d1, d2, d3, d4] }
  | _ => none }
def FnIdentifierIgnoresPointerAndTypeParamsWrongFalsely : Prop := fnIdentifierIgnoresPointerAndTypeParamsRow.holds Try.pinned (OpenSpec.ofChange fnIdentifierIgnoresPointerAndTypeParamsWrong)

/-- 'zzlaws_internal_apitest_b1.FnNameAtIsLongestPrefixWithoutDelimiter': WHATEVER THE INPUT: true; the input reads as it did. -/
def fnNameAtIsLongestPrefixWithoutDelimiterSpec : ChangeSpec := { name := "fnNameAtIsLongestPrefixWithoutDelimiter", fn := fun _ => fun
  | [d] => { results := [.lit (.bool true)], args := [d] }
  | _ => none }
def fnNameAtIsLongestPrefixWithoutDelimiterRow : OpenClaim := { program := "qxb6602240a", sum := "b2a82b032b97acd14bd5c4b06c4f58896c93c4565bc70d43e6558567d9e8527e", func := "example.com/moorage/moorage/zzlaws_internal_apitest_b1.FnNameAtIsLongestPrefixWithoutDelimiter", spec := "fnNameAtIsLongestPrefixWithoutDelimiter", inPlace := ["internal/bytealg.IndexByteString", "internal/bytealg.IndexString"], named := ["internal/bytealg.MaxLen"], apart := false }
def FnNameAtIsLongestPrefixWithoutDelimiterSaid : Prop := fnNameAtIsLongestPrefixWithoutDelimiterRow.holds Try.pinned (OpenSpec.ofChange fnNameAtIsLongestPrefixWithoutDelimiterSpec)

/-- ITS FALSE NEIGHBOUR: 'it returns false'. Refute it at one input. -/
def fnNameAtIsLongestPrefixWithoutDelimiterWrong : ChangeSpec := { name := "fnNameAtIsLongestPrefixWithoutDelimiter", fn := fun _ => fun
  | [d] => { results := [.lit (.bool false)], args := [d] }
  | _ => none }
def FnNameAtIsLongestPrefixWithoutDelimiterWrongFalsely : Prop := fnNameAtIsLongestPrefixWithoutDelimiterRow.holds Try.pinned (OpenSpec.ofChange fnNameAtIsLongestPrefixWithoutDelimiterWrong)

/-- 'zzlaws_internal_apitest_b1.FnNameAtStopsAtFirstDelimiter': WHATEVER THE INPUT: true; the input reads as it did. -/
def fnNameAtStopsAtFirstDelimiterSpec : ChangeSpec := { name := "fnNameAtStopsAtFirstDelimiter", fn := fun _ => fun
  | [d1, d2] => { results := [.lit (.bool true)], args := [d1, d2] }
  | _ => none }
def fnNameAtStopsAtFirstDelimiterRow : OpenClaim := { program := "qxb6602240a", sum := "b2a82b032b97acd14bd5c4b06c4f58896c93c4565bc70d43e6558567d9e8527e", func := "example.com/moorage/moorage/zzlaws_internal_apitest_b1.FnNameAtStopsAtFirstDelimiter", spec := "fnNameAtStopsAtFirstDelimiter", inPlace := ["internal/bytealg.IndexByteString", "internal/bytealg.IndexString"], named := ["internal/bytealg.MaxLen"], apart := false }
def FnNameAtStopsAtFirstDelimiterSaid : Prop := fnNameAtStopsAtFirstDelimiterRow.holds Try.pinned (OpenSpec.ofChange fnNameAtStopsAtFirstDelimiterSpec)

/-- ITS FALSE NEIGHBOUR: 'it returns false'. Refute it at one input. -/
def fnNameAtStopsAtFirstDelimiterWrong : ChangeSpec := { name := "fnNameAtStopsAtFirstDelimiter", fn := fun _ => fun
  | [d1, d2] => { results := [.lit (.bool false)], args := [d1, d2] }
  | _ => none }
def FnNameAtStopsAtFirstDelimiterWrongFalsely : Prop := fnNameAtStopsAtFirstDelimiterRow.holds Try.pinned (OpenSpec.ofChange fnNameAtStopsAtFirstDelimiterWrong)

end Rows
end Go.Proofs.Qxb6602240a
