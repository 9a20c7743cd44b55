/-
  No cell of these rows narrows 'for every input' (looked for: loops, veiled, ifaces, maps, wideKeys, modest, calm, conditions, laid).
  DERIVED. THE GIVEN ROWS OF THIS SEAT. 5 by the template 'for every input the law returns true; each argument reads behind the call as it read before'; 0 by the template 'total and deterministic' (their statements: Qxb6001034aTotals.lean).
  GIVEN WITH THE SEED: the statements are not yours to turn. If you find one false, say at which input.
  Laid BY PROGRAM, IN A SANDBOX (cutbox-rows.mjs): the forced cells as the released guide's own fill.sh prints them over the translation 4d5634efe353ec7f… (all of the seat's roots in one cut). By AI agents, Wed Nov 11 2026. No macro, syntax, notation, axiom, sorry.
-/
import Derived.Test.Qxb6001034aChecked
import GoSem.Claim
import GoSem.ClaimJoined
import GoSem.ClaimMapViews
import Derived.JoinedTies
import Derived.KernelRfl
namespace Go.Proofs.Qxb6001034a
/- THE CELL 'sum', in the pinned program and in every row, IS THE sha256 OF THE DUMP (.gsa) THAT Qxb6001034aProg.lean LOADS. Nothing in Lean hashes anything: it is a label: what it is worth is what the hold of that sum in a sandbox is worth. -/
noncomputable def Try.pinned : Pinned := { name := "qxb6001034a", sum := "4d5634efe353ec7fff034c670f131e0fbcdcf0395dbdd12654b0d8a94360d06e", checked := Try.checked }
namespace Rows
def none {H : Type} : Left H := { results := [], args := [] }

/-- 'zzlaws_internal_jsonstr_b1.FnAppendEscapedDecodesBack': WHATEVER THE INPUT: true; the input reads as it did. -/
def fnAppendEscapedDecodesBackSpec : ChangeSpec := { name := "fnAppendEscapedDecodesBack", fn := fun _ => fun
  | [d1, d2] => { results := [.lit (.bool true)], args := [d1, d2] }
  | _ => none }
def fnAppendEscapedDecodesBackRow : OpenClaim := { program := "qxb6001034a", sum := "4d5634efe353ec7fff034c670f131e0fbcdcf0395dbdd12654b0d8a94360d06e", func := "example.com/parlance/parlance/zzlaws_internal_jsonstr_b1.FnAppendEscapedDecodesBack", spec := "fnAppendEscapedDecodesBack", apart := false }
def FnAppendEscapedDecodesBackSaid : Prop := fnAppendEscapedDecodesBackRow.holds Try.pinned (OpenSpec.ofChange fnAppendEscapedDecodesBackSpec)

/-- ITS FALSE NEIGHBOUR: 'it returns false'. Refute it at one input. -/
def fnAppendEscapedDecodesBackWrong : ChangeSpec := { name := "fnAppendEscapedDecodesBack", fn := fun _ => fun
  | [d1, d2] => { results := [.lit (.bool false)], args := [d1, d2] }
  | _ => none }
def FnAppendEscapedDecodesBackWrongFalsely : Prop := fnAppendEscapedDecodesBackRow.holds Try.pinned (OpenSpec.ofChange fnAppendEscapedDecodesBackWrong)

/-- 'zzlaws_internal_jsonstr_b1.FnAppendEscapedShortFormOrLowerHex': WHATEVER THE INPUT: true; the input reads as it did. -/
def fnAppendEscapedShortFormOrLowerHexSpec : ChangeSpec := { name := "fnAppendEscapedShortFormOrLowerHex", fn := fun _ => fun
  | [d1, d2] => { results := [.lit (.bool true)], args := [d1, d2] }
  | _ => none }
def fnAppendEscapedShortFormOrLowerHexRow : OpenClaim := { program := "qxb6001034a", sum := "4d5634efe353ec7fff034c670f131e0fbcdcf0395dbdd12654b0d8a94360d06e", func := "example.com/parlance/parlance/zzlaws_internal_jsonstr_b1.FnAppendEscapedShortFormOrLowerHex", spec := "fnAppendEscapedShortFormOrLowerHex", apart := false }
def FnAppendEscapedShortFormOrLowerHexSaid : Prop := fnAppendEscapedShortFormOrLowerHexRow.holds Try.pinned (OpenSpec.ofChange fnAppendEscapedShortFormOrLowerHexSpec)

/-- ITS FALSE NEIGHBOUR: 'it returns false'. Refute it at one input. -/
def fnAppendEscapedShortFormOrLowerHexWrong : ChangeSpec := { name := "fnAppendEscapedShortFormOrLowerHex", fn := fun _ => fun
  | [d1, d2] => { results := [.lit (.bool false)], args := [d1, d2] }
  | _ => none }
def FnAppendEscapedShortFormOrLowerHexWrongFalsely : Prop := fnAppendEscapedShortFormOrLowerHexRow.holds Try.pinned (OpenSpec.ofChange fnAppendEscapedShortFormOrLowerHexWrong)

/-- 'zzlaws_internal_jsonstr_b1.FnEscapedByMatchesScan': WHATEVER THE INPUT: true; the input reads as it did. -/
def fnEscapedByMatchesScanSpec : ChangeSpec := { name := "fnEscapedByMatchesScan", fn := fun _ => fun
  | [d] => { results := [.lit (.bool true)], args := [d] }
  | _ => none }
def fnEscapedByMatchesScanRow : OpenClaim := { program := "qxb6001034a", sum := "4d5634efe353ec7fff034c670f131e0fbcdcf0395dbdd12654b0d8a94360d06e", func := "example.com/parlance/parlance/zzlaws_internal_jsonstr_b1.FnEscapedByMatchesScan", spec := "fnEscapedByMatchesScan", apart := false }
def FnEscapedByMatchesScanSaid : Prop := fnEscapedByMatchesScanRow.holds Try.pinned (OpenSpec.ofChange fnEscapedByMatchesScanSpec)

/-- ITS FALSE NEIGHBOUR: 'it returns false'. Refute it at one input. -/
def fnEscapedByMatchesScanWrong : ChangeSpec := { name := "fnEscapedByMatchesScan", fn := fun _ => fun
  | [d] => { results := [.lit (.bool false)], args := [d] }
  | _ => none }
def FnEscapedByMatchesScanWrongFalsely : Prop := fnEscapedByMatchesScanRow.holds Try.pinned (OpenSpec.ofChange fnEscapedByMatchesScanWrong)

/-- 'zzlaws_internal_jsonstr_b1.FnEscapedByShiftInvariant': WHATEVER THE INPUT: true; the input reads as it did. -/
def fnEscapedByShiftInvariantSpec : ChangeSpec := { name := "fnEscapedByShiftInvariant", fn := fun _ => fun
  | [d1, d2] => { results := [.lit (.bool true)], args := [d1, d2] }
  | _ => none }
def fnEscapedByShiftInvariantRow : OpenClaim := { program := "qxb6001034a", sum := "4d5634efe353ec7fff034c670f131e0fbcdcf0395dbdd12654b0d8a94360d06e", func := "example.com/parlance/parlance/zzlaws_internal_jsonstr_b1.FnEscapedByShiftInvariant", spec := "fnEscapedByShiftInvariant", apart := false }
def FnEscapedByShiftInvariantSaid : Prop := fnEscapedByShiftInvariantRow.holds Try.pinned (OpenSpec.ofChange fnEscapedByShiftInvariantSpec)

/-- ITS FALSE NEIGHBOUR: 'it returns false'. Refute it at one input. -/
def fnEscapedByShiftInvariantWrong : ChangeSpec := { name := "fnEscapedByShiftInvariant", fn := fun _ => fun
  | [d1, d2] => { results := [.lit (.bool false)], args := [d1, d2] }
  | _ => none }
def FnEscapedByShiftInvariantWrongFalsely : Prop := fnEscapedByShiftInvariantRow.holds Try.pinned (OpenSpec.ofChange fnEscapedByShiftInvariantWrong)

/-- 'zzlaws_internal_jsonstr_b1.FnEscapedByMarksOnlyAfterBackslash': WHATEVER THE INPUT: true; the input reads as it did. -/
def fnEscapedByMarksOnlyAfterBackslashSpec : ChangeSpec := { name := "fnEscapedByMarksOnlyAfterBackslash", fn := fun _ => fun
  | [d] => { results := [.lit (.bool true)], args := [d] }
  | _ => none }
def fnEscapedByMarksOnlyAfterBackslashRow : OpenClaim := { program := "qxb6001034a", sum := "4d5634efe353ec7fff034c670f131e0fbcdcf0395dbdd12654b0d8a94360d06e", func := "example.com/parlance/parlance/zzlaws_internal_jsonstr_b1.FnEscapedByMarksOnlyAfterBackslash", spec := "fnEscapedByMarksOnlyAfterBackslash", apart := false }
def FnEscapedByMarksOnlyAfterBackslashSaid : Prop := fnEscapedByMarksOnlyAfterBackslashRow.holds Try.pinned (OpenSpec.ofChange fnEscapedByMarksOnlyAfterBackslashSpec)

/-- ITS FALSE NEIGHBOUR: 'it returns false'. Refute it at one input. -/
def fnEscapedByMarksOnlyAfterBackslashWrong : ChangeSpec := { name := "fnEscapedByMarksOnlyAfterBackslash", fn := fun _ => fun
  | [d] => { results := [.lit (.bool false)], args := [d] }
  | _ => none }
def FnEscapedByMarksOnlyAfterBackslashWrongFalsely : Prop := fnEscapedByMarksOnlyAfterBackslashRow.holds Try.pinned (OpenSpec.ofChange fnEscapedByMarksOnlyAfterBackslashWrong)

end Rows
end Go.Proofs.Qxb6001034a
