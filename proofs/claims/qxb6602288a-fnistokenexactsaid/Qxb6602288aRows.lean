/-
  No cell of these rows narrows 'for every input' (looked for: loops, veiled, ifaces, maps, wideKeys, modest, calm, conditions, laid).
  DERIVED. THE GIVEN ROWS OF THIS SEAT. 5 by the template 'for every input the law returns true; each argument reads behind the call as it read before'; 0 by the template 'total and deterministic' (their statements: Qxb6602288aTotals.lean).
  GIVEN WITH THE SEED: the statements are not yours to turn. If you find one false, say at which input.
  Laid BY PROGRAM, IN A SANDBOX (cutbox-rows.mjs): the forced cells as the released guide's own fill.sh prints them over the translation 20f9cdf008043d8a… (all of the seat's roots in one cut). By AI agents, Wed Nov 11 2026. No macro, syntax, notation, axiom, sorry.
-/
import Derived.Test.Qxb6602288aChecked
import GoSem.Claim
import GoSem.ClaimJoined
import GoSem.ClaimMapViews
import Derived.JoinedTies
import Derived.KernelRfl
namespace Go.Proofs.Qxb6602288a
/- THE CELL 'sum', in the pinned program and in every row, IS THE sha256 OF THE DUMP (.gsa) THAT Qxb6602288aProg.lean LOADS. Nothing in Lean hashes anything: it is a label: what it is worth is what the hold of that sum in a sandbox is worth. -/
noncomputable def Try.pinned : Pinned := { name := "qxb6602288a", sum := "20f9cdf008043d8a7630d1254408ba01ef7c57772e54a506c359da62f542d923", checked := Try.checked }
namespace Rows
def none {H : Type} : Left H := { results := [], args := [] }

/-- 'zzlaws_internal_http1_b1.FnIsTokenExact': WHATEVER THE INPUT: true; the input reads as it did. -/
def fnIsTokenExactSpec : ChangeSpec := { name := "fnIsTokenExact", fn := fun _ => fun
  | [d] => { results := [.lit (.bool true)], args := [d] }
  | _ => none }
def fnIsTokenExactRow : OpenClaim := { program := "qxb6602288a", sum := "20f9cdf008043d8a7630d1254408ba01ef7c57772e54a506c359da62f542d923", func := "example.com/call-throttle/call-throttle/zzlaws_internal_http1_b1.FnIsTokenExact", spec := "fnIsTokenExact", inPlace := ["internal/bytealg.IndexByteString"], apart := false }
def FnIsTokenExactSaid : Prop := fnIsTokenExactRow.holds Try.pinned (OpenSpec.ofChange fnIsTokenExactSpec)

/-- ITS FALSE NEIGHBOUR: 'it returns false'. Refute it at one input. -/
def fnIsTokenExactWrong : ChangeSpec := { name := "fnIsTokenExact", fn := fun _ => fun
  | [d] => { results := [.lit (.bool false)], args := [d] }
  | _ => none }
def FnIsTokenExactWrongFalsely : Prop := fnIsTokenExactRow.holds Try.pinned (OpenSpec.ofChange fnIsTokenExactWrong)

/-- 'zzlaws_internal_http1_b1.FnIsTokenConcat': WHATEVER THE INPUT: true; the input reads as it did. -/
def fnIsTokenConcatSpec : ChangeSpec := { name := "fnIsTokenConcat", fn := fun _ => fun
  | [d1, d2] => { results := [.lit (.bool true)], args := [d1, d2] }
  | _ => none }
def fnIsTokenConcatRow : OpenClaim := { program := "qxb6602288a", sum := "20f9cdf008043d8a7630d1254408ba01ef7c57772e54a506c359da62f542d923", func := "example.com/call-throttle/call-throttle/zzlaws_internal_http1_b1.FnIsTokenConcat", spec := "fnIsTokenConcat", inPlace := ["internal/bytealg.IndexByteString"], apart := false }
def FnIsTokenConcatSaid : Prop := fnIsTokenConcatRow.holds Try.pinned (OpenSpec.ofChange fnIsTokenConcatSpec)

/-- ITS FALSE NEIGHBOUR: 'it returns false'. Refute it at one input. -/
def fnIsTokenConcatWrong : ChangeSpec := { name := "fnIsTokenConcat", fn := fun _ => fun
  | [d1, d2] => { results := [.lit (.bool false)], args := [d1, d2] }
  | _ => none }
def FnIsTokenConcatWrongFalsely : Prop := fnIsTokenConcatRow.holds Try.pinned (OpenSpec.ofChange fnIsTokenConcatWrong)

/-- 'zzlaws_internal_http1_b1.FnTokenIsFieldValue': WHATEVER THE INPUT: true; the input reads as it did. -/
def fnTokenIsFieldValueSpec : ChangeSpec := { name := "fnTokenIsFieldValue", fn := fun _ => fun
  | [d] => { results := [.lit (.bool true)], args := [d] }
  | _ => none }
def fnTokenIsFieldValueRow : OpenClaim := { program := "qxb6602288a", sum := "20f9cdf008043d8a7630d1254408ba01ef7c57772e54a506c359da62f542d923", func := "example.com/call-throttle/call-throttle/zzlaws_internal_http1_b1.FnTokenIsFieldValue", spec := "fnTokenIsFieldValue", inPlace := ["internal/bytealg.IndexByteString"], apart := false }
def FnTokenIsFieldValueSaid : Prop := fnTokenIsFieldValueRow.holds Try.pinned (OpenSpec.ofChange fnTokenIsFieldValueSpec)

/-- ITS FALSE NEIGHBOUR: 'it returns false'. Refute it at one input. -/
def fnTokenIsFieldValueWrong : ChangeSpec := { name := "fnTokenIsFieldValue", fn := fun _ => fun
  | [d] => { results := [.lit (.bool false)], args := [d] }
  | _ => none }
def FnTokenIsFieldValueWrongFalsely : Prop := fnTokenIsFieldValueRow.holds Try.pinned (OpenSpec.ofChange fnTokenIsFieldValueWrong)

/-- 'zzlaws_internal_http1_b1.FnIsFieldValueExact': WHATEVER THE INPUT: true; the input reads as it did. -/
def fnIsFieldValueExactSpec : ChangeSpec := { name := "fnIsFieldValueExact", fn := fun _ => fun
  | [d] => { results := [.lit (.bool true)], args := [d] }
  | _ => none }
def fnIsFieldValueExactRow : OpenClaim := { program := "qxb6602288a", sum := "20f9cdf008043d8a7630d1254408ba01ef7c57772e54a506c359da62f542d923", func := "example.com/call-throttle/call-throttle/zzlaws_internal_http1_b1.FnIsFieldValueExact", spec := "fnIsFieldValueExact", apart := false }
def FnIsFieldValueExactSaid : Prop := fnIsFieldValueExactRow.holds Try.pinned (OpenSpec.ofChange fnIsFieldValueExactSpec)

/-- ITS FALSE NEIGHBOUR: 'it returns false'. Refute it at one input. -/
def fnIsFieldValueExactWrong : ChangeSpec := { name := "fnIsFieldValueExact", fn := fun _ => fun
  | [d] => { results := [.lit (.bool false)], args := [d] }
  | _ => none }
def FnIsFieldValueExactWrongFalsely : Prop := fnIsFieldValueExactRow.holds Try.pinned (OpenSpec.ofChange fnIsFieldValueExactWrong)

/-- 'zzlaws_internal_http1_b1.FnIsFieldValueConcat': WHATEVER THE INPUT: true; the input reads as it did. -/
def fnIsFieldValueConcatSpec : ChangeSpec := { name := "fnIsFieldValueConcat", fn := fun _ => fun
  | [d1, d2] => { results := [.lit (.bool true)], args := [d1, d2] }
  | _ => none }
def fnIsFieldValueConcatRow : OpenClaim := { program := "qxb6602288a", sum := "20f9cdf008043d8a7630d1254408ba01ef7c57772e54a506c359da62f542d923", func := "example.com/call-throttle/call-throttle/zzlaws_internal_http1_b1.FnIsFieldValueConcat", spec := "fnIsFieldValueConcat", apart := false }
def FnIsFieldValueConcatSaid : Prop := fnIsFieldValueConcatRow.holds Try.pinned (OpenSpec.ofChange fnIsFieldValueConcatSpec)

/-- ITS FALSE NEIGHBOUR: 'it returns false'. Refute it at one input. -/
def fnIsFieldValueConcatWrong : ChangeSpec := { name := "fnIsFieldValueConcat", fn := fun _ => fun
  | [d1, d2] => { results := [.lit (.bool false)], args := [d1, d2] }
  | _ => none }
def FnIsFieldValueConcatWrongFalsely : Prop := fnIsFieldValueConcatRow.holds Try.pinned (OpenSpec.ofChange fnIsFieldValueConcatWrong)

end Rows
end Go.Proofs.Qxb6602288a
