/-
  No cell of these rows narrows 'for every input' (looked for: loops, veiled, ifaces, maps, wideKeys, modest, calm, conditions, laid).
  DERIVED. THE GIVEN ROWS OF THIS SEAT. 10 by the template 'for every input the law returns true; each argument reads behind the call as it read before'; 0 by the template 'total and deterministic' (their statements: Qxb6001693aModsTotals.lean).
  GIVEN WITH THE SEED: the statements are not yours to turn. If you find one false, say at which input.
  Laid BY PROGRAM, IN A SANDBOX (cutbox-rows.mjs): the forced cells as the released guide's own fill.sh prints them over the translation 05c4b71003258322… (all of the seat's roots in one cut). By AI agents, Wed Nov 11 2026. No macro, syntax, notation, axiom, sorry.
-/
import Derived.Test.Qxb6001693aModsChecked
import GoSem.Claim
import GoSem.ClaimJoined
import GoSem.ClaimMapViews
import Derived.JoinedTies
import Derived.KernelRfl
namespace Go.Proofs.Qxb6001693aMods
/- THE CELL 'sum', in the pinned program and in every row, IS THE sha256 OF THE DUMP (.gsa) THAT Qxb6001693aModsProg.lean LOADS. Nothing in Lean hashes anything: it is a label: what it is worth is what the hold of that sum in a sandbox is worth. -/
noncomputable def Trym.pinned : Pinned := { name := "qxb6001693amods", sum := "05c4b710032583222a7b4b3dc9e31401cc3fd791226027ec1e8ccc6f26703b3f", checked := Trym.checked }
namespace Rows
def none {H : Type} : Left H := { results := [], args := [] }

/-- 'zzlaws_internal_jinja_b1.FnLastIndexOfExact': WHATEVER THE INPUT: true; the input reads as it did. -/
def fnLastIndexOfExactSpec : ChangeSpec := { name := "fnLastIndexOfExact", fn := fun _ => fun
  | [d1, d2] => { results := [.lit (.bool true)], args := [d1, d2] }
  | _ => none }
def fnLastIndexOfExactRow : OpenClaim := { program := "qxb6001693amods", sum := "05c4b710032583222a7b4b3dc9e31401cc3fd791226027ec1e8ccc6f26703b3f", func := "example.com/cradle/cradle/zzlaws_internal_jinja_b1.FnLastIndexOfExact", spec := "fnLastIndexOfExact", make := .lifted ["publicsums"], apart := false }
def FnLastIndexOfExactSaid : Prop := fnLastIndexOfExactRow.holds Trym.pinned (OpenSpec.ofChange fnLastIndexOfExactSpec)

/-- ITS FALSE NEIGHBOUR: 'it returns false'. Refute it at one input. -/
def fnLastIndexOfExactWrong : ChangeSpec := { name := "fnLastIndexOfExact", fn := fun _ => fun
  | [d1, d2] => { results := [.lit (.bool false)], args := [d1, d2] }
  | _ => none }
def FnLastIndexOfExactWrongFalsely : Prop := fnLastIndexOfExactRow.holds Trym.pinned (OpenSpec.ofChange fnLastIndexOfExactWrong)

/-- 'zzlaws_internal_jinja_b1.FnLastIndexOfAppend': WHATEVER THE INPUT: true; the input reads as it did. -/
def fnLastIndexOfAppendSpec : ChangeSpec := { name := "fnLastIndexOfAppend", fn := fun _ => fun
  | [d1, d2, d3] => { results := [.lit (.bool true)], args := [d1, d2, d3] }
  | _ => none }
def fnLastIndexOfAppendRow : OpenClaim := { program := "qxb6001693amods", sum := "05c4b710032583222a7b4b3dc9e31401cc3fd791226027ec1e8ccc6f26703b3f", func := "example.com/cradle/cradle/zzlaws_internal_jinja_b1.FnLastIndexOfAppend", spec := "fnLastIndexOfAppend", make := .lifted ["publicsums"], apart := false }
def FnLastIndexOfAppendSaid : Prop := fnLastIndexOfAppendRow.holds Trym.pinned (OpenSpec.ofChange fnLastIndexOfAppendSpec)

/-- ITS FALSE NEIGHBOUR: 'it returns false'. Refute it at one input. -/
def fnLastIndexOfAppendWrong : ChangeSpec := { name := "fnLastIndexOfAppend", fn := fun _ => fun
  | [d1, d2, d3] => { results := [.lit (.bool false)], args := [d1, d2, d3] }
  | _ => none }
def FnLastIndexOfAppendWrongFalsely : Prop := fnLastIndexOfAppendRow.holds Trym.pinned (OpenSpec.ofChange fnLastIndexOfAppendWrong)

/-- 'zzlaws_internal_jinja_b1.FnLastIndexOfPrefix': WHATEVER THE INPUT: true; the input reads as it did. -/
def fnLastIndexOfPrefixSpec : ChangeSpec := { name := "fnLastIndexOfPrefix", fn := fun _ => fun
  | [d1, d2, d3] => { results := [.lit (.bool true)], args := [d1, d2, d3] }
  | _ => none }
def fnLastIndexOfPrefixRow : OpenClaim := { program := "qxb6001693amods", sum := "05c4b710032583222a7b4b3dc9e31401cc3fd791226027ec1e8ccc6f26703b3f", func := "example.com/cradle/cradle/zzlaws_internal_jinja_b1.FnLastIndexOfPrefix", spec := "fnLastIndexOfPrefix", make := .lifted ["publicsums"], apart := false }
def FnLastIndexOfPrefixSaid : Prop := fnLastIndexOfPrefixRow.holds Trym.pinned (OpenSpec.ofChange fnLastIndexOfPrefixSpec)

/-- ITS FALSE NEIGHBOUR: 'it returns false'. Refute it at one input. -/
def fnLastIndexOfPrefixWrong : ChangeSpec := { name := "fnLastIndexOfPrefix", fn := fun _ => fun
  | [d1, d2, d3] => { results := [.lit (.bool false)], args := [d1, d2, d3] }
  | _ => none }
def FnLastIndexOfPrefixWrongFalsely : Prop := fnLastIndexOfPrefixRow.holds Trym.pinned (OpenSpec.ofChange fnLastIndexOfPrefixWrong)

/-- 'zzlaws_internal_jinja_b1.FnIndexNotOfExact': WHATEVER THE INPUT: true; the input reads as it did. -/
def fnIndexNotOfExactSpec : ChangeSpec := { name := "fnIndexNotOfExact", fn := fun _ => fun
  | [d1, d2] => { results := [.lit (.bool true)], args := [d1, d2] }
  | _ => none }
def fnIndexNotOfExactRow : OpenClaim := { program := "qxb6001693amods", sum := "05c4b710032583222a7b4b3dc9e31401cc3fd791226027ec1e8ccc6f26703b3f", func := "example.com/cradle/cradle/zzlaws_internal_jinja_b1.FnIndexNotOfExact", spec := "fnIndexNotOfExact", make := .lifted ["publicsums"], apart := false }
def FnIndexNotOfExactSaid : Prop := fnIndexNotOfExactRow.holds Trym.pinned (OpenSpec.ofChange fnIndexNotOfExactSpec)

/-- ITS FALSE NEIGHBOUR: 'it returns false'. Refute it at one input. -/
def fnIndexNotOfExactWrong : ChangeSpec := { name := "fnIndexNotOfExact", fn := fun _ => fun
  | [d1, d2] => { results := [.lit (.bool false)], args := [d1, d2] }
  | _ => none }
def FnIndexNotOfExactWrongFalsely : Prop := fnIndexNotOfExactRow.holds Trym.pinned (OpenSpec.ofChange fnIndexNotOfExactWrong)

/-- 'zzlaws_internal_jinja_b1.FnIndexNotOfPadding': WHATEVER THE INPUT: true; the input reads as it did. -/
def fnIndexNotOfPaddingSpec : ChangeSpec := { name := "fnIndexNotOfPadding", fn := fun _ => fun
  | [d1, d2, d3] => { results := [.lit (.bool true)], args := [d1, d2, d3] }
  | _ => none }
def fnIndexNotOfPaddingRow : OpenClaim := { program := "qxb6001693amods", sum := "05c4b710032583222a7b4b3dc9e31401cc3fd791226027ec1e8ccc6f26703b3f", func := "example.com/cradle/cradle/zzlaws_internal_jinja_b1.FnIndexNotOfPadding", spec := "fnIndexNotOfPadding", make := .lifted ["publicsums"], apart := false }
def FnIndexNotOfPaddingSaid : Prop := fnIndexNotOfPaddingRow.holds Trym.pinned (OpenSpec.ofChange fnIndexNotOfPaddingSpec)

/-- ITS FALSE NEIGHBOUR: 'it returns false'. Refute it at one input. -/
def fnIndexNotOfPaddingWrong : ChangeSpec := { name := "fnIndexNotOfPadding", fn := fun _ => fun
  | [d1, d2, d3] => { results := [.lit (.bool false)], args := [d1, d2, d3] }
  | _ => none }
def FnIndexNotOfPaddingWrongFalsely : Prop := fnIndexNotOfPaddingRow.holds Trym.pinned (OpenSpec.ofChange fnIndexNotOfPaddingWrong)

/-- 'zzlaws_internal_jinja_b1.FnDigitsEndExact': WHATEVER THE INPUT: true; the input reads as it did. -/
def fnDigitsEndExactSpec : ChangeSpec := { name := "fnDigitsEndExact", fn := fun _ => fun
  | [d1, d2] => { results := [.lit (.bool true)], args := [d1, d2] }
  | _ => none }
def fnDigitsEndExactRow : OpenClaim := { program := "qxb6001693amods", sum := "05c4b710032583222a7b4b3dc9e31401cc3fd791226027ec1e8ccc6f26703b3f", func := "example.com/cradle/cradle/zzlaws_internal_jinja_b1.FnDigitsEndExact", spec := "fnDigitsEndExact", make := .lifted ["publicsums"], apart := false }
def FnDigitsEndExactSaid : Prop := fnDigitsEndExactRow.holds Trym.pinned (OpenSpec.ofChange fnDigitsEndExactSpec)

/-- ITS FALSE NEIGHBOUR: 'it returns false'. Refute it at one input. -/
def fnDigitsEndExactWrong : ChangeSpec := { name := "fnDigitsEndExact", fn := fun _ => fun
  | [d1, d2] => { results := [.lit (.bool false)], args := [d1, d2] }
  | _ => none }
def FnDigitsEndExactWrongFalsely : Prop := fnDigitsEndExactRow.holds Trym.pinned (OpenSpec.ofChange fnDigitsEndExactWrong)

/-- 'zzlaws_internal_jinja_b1.FnDigitsEndRunShared': WHATEVER THE INPUT: true; the input reads as it did. -/
def fnDigitsEndRunSharedSpec : ChangeSpec := { name := "fnDigitsEndRunShared", fn := fun _ => fun
  | [d1, d2, d3] => { results := [.lit (.bool true)], args := [d1, d2, d3] }
  | _ => none }
def fnDigitsEndRunSharedRow : OpenClaim := { program := "qxb6001693amods", sum := "05c4b710032583222a7b4b3dc9e31401cc3fd791226027ec1e8ccc6f26703b3f", func := "example.com/cradle/cradle/zzlaws_internal_jinja_b1.FnDigitsEndRunShared", spec := "fnDigitsEndRunShared", make := .lifted ["publicsums"], apart := false }
def FnDigitsEndRunSharedSaid : Prop := fnDigitsEndRunSharedRow.holds Trym.pinned (OpenSpec.ofChange fnDigitsEndRunSharedSpec)

/-- ITS FALSE NEIGHBOUR: 'it returns false'. Refute it at one input. -/
def fnDigitsEndRunSharedWrong : ChangeSpec := { name := "fnDigitsEndRunShared", fn := fun _ => fun
  | [d1, d2, d3] => { results := [.lit (.bool false)], args := [d1, d2, d3] }
  | _ => none }
def FnDigitsEndRunSharedWrongFalsely : Prop := fnDigitsEndRunSharedRow.holds Trym.pinned (OpenSpec.ofChange fnDigitsEndRunSharedWrong)

/-- 'zzlaws_internal_jinja_b1.FnDigitsEndExtension': WHATEVER THE INPUT: true; the input reads as it did. -/
def fnDigitsEndExtensionSpec : ChangeSpec := { name := "fnDigitsEndExtension", fn := fun _ => fun
  | [d1, d2, d3] => { results := [.lit (.bool true)], args := [d1, d2, d3] }
  | _ => none }
def fnDigitsEndExtensionRow : OpenClaim := { program := "qxb6001693amods", sum := "05c4b710032583222a7b4b3dc9e31401cc3fd791226027ec1e8ccc6f26703b3f", func := "example.com/cradle/cradle/zzlaws_internal_jinja_b1.FnDigitsEndExtension", spec := "fnDigitsEndExtension", make := .lifted ["publicsums"], apart := false }
def FnDigitsEndExtensionSaid : Prop := fnDigitsEndExtensionRow.holds Trym.pinned (OpenSpec.ofChange fnDigitsEndExtensionSpec)

/-- ITS FALSE NEIGHBOUR: 'it returns false'. Refute it at one input. -/
def fnDigitsEndExtensionWrong : ChangeSpec := { name := "fnDigitsEndExtension", fn := fun _ => fun
  | [d1, d2, d3] => { results := [.lit (.bool false)], args := [d1, d2, d3] }
  | _ => none }
def FnDigitsEndExtensionWrongFalsely : Prop := fnDigitsEndExtensionRow.holds Trym.pinned (OpenSpec.ofChange fnDigitsEndExtensionWrong)

/-- 'zzlaws_internal_jinja_b1.FnNeedsQuotesExact': WHATEVER THE INPUT: true; the input reads as it did. -/
def fnNeedsQuotesExactSpec : ChangeSpec := { name := "fnNeedsQuotesExact", fn := fun _ => fun
  | [d] => { results := [.lit (.bool true)], args := [d] }
  | _ => none }
def fnNeedsQuotesExactRow : OpenClaim := { program := "qxb6001693amods", sum := "05c4b710032583222a7b4b3dc9e31401cc3fd791226027ec1e8ccc6f26703b3f", func := "example.com/cradle/cradle/zzlaws_internal_jinja_b1.FnNeedsQuotesExact", spec := "fnNeedsQuotesExact", inPlace := ["internal/bytealg.IndexByteString", "internal/bytealg.IndexString"], named := ["internal/bytealg.MaxLen"], make := .lifted ["publicsums"], apart := false }
def FnNeedsQuotesExactSaid : Prop := fnNeedsQuotesExactRow.holds Trym.pinned (OpenSpec.ofChange fnNeedsQuotesExactSpec)

/-- ITS FALSE NEIGHBOUR: 'it returns false'. Refute it at one input. -/
def fnNeedsQuotesExactWrong : ChangeSpec := { name := "fnNeedsQuotesExact", fn := fun _ => fun
  | [d] => { results := [.lit (.bool false)], args := [d] }
  | _ => none }
def FnNeedsQuotesExactWrongFalsely : Prop := fnNeedsQuotesExactRow.holds Trym.pinned (OpenSpec.ofChange fnNeedsQuotesExactWrong)

/-- 'zzlaws_internal_jinja_b1.FnNeedsQuotesShellSpecial': WHATEVER THE INPUT: true; the input reads as it did. -/
def fnNeedsQuotesShellSpecialSpec : ChangeSpec := { name := "fnNeedsQuotesShellSpecial", fn := fun _ => fun
  | [d] => { results := [.lit (.bool true)], args := [d] }
  | _ => none }
def fnNeedsQuotesShellSpecialRow : OpenClaim := { program := "qxb6001693amods", sum := "05c4b710032583222a7b4b3dc9e31401cc3fd791226027ec1e8ccc6f26703b3f", func := "example.com/cradle/cradle/zzlaws_internal_jinja_b1.FnNeedsQuotesShellSpecial", spec := "fnNeedsQuotesShellSpecial", inPlace := ["internal/bytealg.IndexByteString", "internal/bytealg.IndexString"], named := ["internal/bytealg.MaxLen"], make := .lifted ["publicsums"], apart := false }
def FnNeedsQuotesShellSpecialSaid : Prop := fnNeedsQuotesShellSpecialRow.holds Trym.pinned (OpenSpec.ofChange fnNeedsQuotesShellSpecialSpec)

/-- ITS FALSE NEIGHBOUR: 'it returns false'. Refute it at one input. -/
def fnNeedsQuotesShellSpecialWrong : ChangeSpec := { name := "fnNeedsQuotesShellSpecial", fn := fun _ => fun
  | [d] => { results := [.lit (.bool false)], args := [d] }
  | _ => none }
def FnNeedsQuotesShellSpecialWrongFalsely : Prop := fnNeedsQuotesShellSpecialRow.holds Trym.pinned (OpenSpec.ofChange fnNeedsQuotesShellSpecialWrong)

end Rows
end Go.Proofs.Qxb6001693aMods
