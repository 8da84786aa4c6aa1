/-
  No cell of these rows narrows 'for every input' (looked for: loops, veiled, ifaces, maps, wideKeys, modest, calm, conditions, laid).
  DERIVED. THE GIVEN ROWS OF THIS SEAT. 7 by the template 'for every input the law returns true; each argument reads behind the call as it read before'; 0 by the template 'total and deterministic' (their statements: Qxb6603377aTotals.lean).
  GIVEN WITH THE SEED: the statements are not yours to turn. If you find one false, say at which input.
  Laid BY PROGRAM, IN A SANDBOX (cutbox-rows.mjs): the forced cells as the released guide's own fill.sh prints them over the translation dc4077e1c27d694d… (all of the seat's roots in one cut). By AI agents, Wed Nov 11 2026. No macro, syntax, notation, axiom, sorry.
-/
import Derived.Test.Qxb6603377aChecked
import GoSem.Claim
import GoSem.ClaimJoined
import GoSem.ClaimMapViews
import Derived.JoinedTies
import Derived.KernelRfl
namespace Go.Proofs.Qxb6603377a
/- THE CELL 'sum', in the pinned program and in every row, IS THE sha256 OF THE DUMP (.gsa) THAT Qxb6603377aProg.lean LOADS. Nothing in Lean hashes anything: it is a label: what it is worth is what the hold of that sum in a sandbox is worth. -/
noncomputable def Try.pinned : Pinned := { name := "qxb6603377a", sum := "dc4077e1c27d694de73cbe4666f4a28191d31befaa22dd8e84bb1c5d9c656be6", checked := Try.checked }
namespace Rows
def none {H : Type} : Left H := { results := [], args := [] }

/-- 'zzlaws_internal_strictjson_b1.FnStringEndMatchesForwardScan': WHATEVER THE INPUT: true; the input reads as it did. -/
def fnStringEndMatchesForwardScanSpec : ChangeSpec := { name := "fnStringEndMatchesForwardScan", fn := fun _ => fun
  | [d1, d2] => { results := [.lit (.bool true)], args := [d1, d2] }
  | _ => none }
def fnStringEndMatchesForwardScanRow : OpenClaim := { program := "qxb6603377a", sum := "dc4077e1c27d694de73cbe4666f4a28191d31befaa22dd8e84bb1c5d9c656be6", func := "example.com/reinloop/reinloop/zzlaws_internal_strictjson_b1.FnStringEndMatchesForwardScan", spec := "fnStringEndMatchesForwardScan", inPlace := ["internal/bytealg.IndexByte"], apart := false }
def FnStringEndMatchesForwardScanSaid : Prop := fnStringEndMatchesForwardScanRow.holds Try.pinned (OpenSpec.ofChange fnStringEndMatchesForwardScanSpec)

/-- ITS FALSE NEIGHBOUR: 'it returns false'. Refute it at one input. -/
def fnStringEndMatchesForwardScanWrong : ChangeSpec := { name := "fnStringEndMatchesForwardScan", fn := fun _ => fun
  | [d1, d2] => { results := [.lit (.bool false)], args := [d1, d2] }
  | _ => none }
def FnStringEndMatchesForwardScanWrongFalsely : Prop := fnStringEndMatchesForwardScanRow.holds Try.pinned (OpenSpec.ofChange fnStringEndMatchesForwardScanWrong)

/-- 'zzlaws_internal_strictjson_b1.FnStringEndFindsEndOfQuotedText': WHATEVER THE INPUT: true; the input reads as it did. -/
def fnStringEndFindsEndOfQuotedTextSpec : ChangeSpec := { name := "fnStringEndFindsEndOfQuotedText", fn := fun _ => fun
  | [d1, d2] => { results := [.lit (.bool true)], args := [d1, d2] }
  | _ => none }
def fnStringEndFindsEndOfQuotedTextRow : OpenClaim := { program := "qxb6603377a", sum := "dc4077e1c27d694de73cbe4666f4a28191d31befaa22dd8e84bb1c5d9c656be6", func := "example.com/reinloop/reinloop/zzlaws_internal_strictjson_b1.FnStringEndFindsEndOfQuotedText", spec := "fnStringEndFindsEndOfQuotedText", inPlace := ["internal/bytealg.IndexByte"], apart := false }
def FnStringEndFindsEndOfQuotedTextSaid : Prop := fnStringEndFindsEndOfQuotedTextRow.holds Try.pinned (OpenSpec.ofChange fnStringEndFindsEndOfQuotedTextSpec)

/-- ITS FALSE NEIGHBOUR: 'it returns false'. Refute it at one input. -/
def fnStringEndFindsEndOfQuotedTextWrong : ChangeSpec := { name := "fnStringEndFindsEndOfQuotedText", fn := fun _ => fun
  | [d1, d2] => { results := [.lit (.bool false)], args := [d1, d2] }
  | _ => none }
def FnStringEndFindsEndOfQuotedTextWrongFalsely : Prop := fnStringEndFindsEndOfQuotedTextRow.holds Try.pinned (OpenSpec.ofChange fnStringEndFindsEndOfQuotedTextWrong)

/-- 'zzlaws_internal_strictjson_b1.FnValueEndMatchesModel': WHATEVER THE INPUT: true; the input reads as it did. -/
def fnValueEndMatchesModelSpec : ChangeSpec := { name := "fnValueEndMatchesModel", fn := fun _ => fun
  | [d1, d2] => { results := [.lit (.bool true)], args := [d1, d2] }
  | _ => none }
def fnValueEndMatchesModelRow : OpenClaim := { program := "qxb6603377a", sum := "dc4077e1c27d694de73cbe4666f4a28191d31befaa22dd8e84bb1c5d9c656be6", func := "example.com/reinloop/reinloop/zzlaws_internal_strictjson_b1.FnValueEndMatchesModel", spec := "fnValueEndMatchesModel", inPlace := ["internal/bytealg.IndexByte"], apart := false }
def FnValueEndMatchesModelSaid : Prop := fnValueEndMatchesModelRow.holds Try.pinned (OpenSpec.ofChange fnValueEndMatchesModelSpec)

/-- ITS FALSE NEIGHBOUR: 'it returns false'. Refute it at one input. -/
def fnValueEndMatchesModelWrong : ChangeSpec := { name := "fnValueEndMatchesModel", fn := fun _ => fun
  | [d1, d2] => { results := [.lit (.bool false)], args := [d1, d2] }
  | _ => none }
def FnValueEndMatchesModelWrongFalsely : Prop := fnValueEndMatchesModelRow.holds Try.pinned (OpenSpec.ofChange fnValueEndMatchesModelWrong)

/-- 'zzlaws_internal_strictjson_b1.FnValueEndOfPrefixIsDecidedByWhereTheValueEnds': WHATEVER THE INPUT: true; the input reads as it did. -/
def fnValueEndOfPrefixIsDecidedByWhereTheValueEndsSpec : ChangeSpec := { name := "fnValueEndOfPrefixIsDecidedByWhereTheValueEnds", fn := fun _ => fun
  | [d1, d2, d3] => { results := [.lit (.bool true)], args := [d1, d2, d3] }
  | _ => none }
def fnValueEndOfPrefixIsDecidedByWhereTheValueEndsRow : OpenClaim := { program := "qxb6603377a", sum := "dc4077e1c27d694de73cbe4666f4a28191d31befaa22dd8e84bb1c5d9c656be6", func := "example.com/reinloop/reinloop/zzlaws_internal_strictjson_b1.FnValueEndOfPrefixIsDecidedByWhereTheValueEnds", spec := "fnValueEndOfPrefixIsDecidedByWhereTheValueEnds", inPlace := ["internal/bytealg.IndexByte"], apart := false }
def FnValueEndOfPrefixIsDecidedByWhereTheValueEndsSaid : Prop := fnValueEndOfPrefixIsDecidedByWhereTheValueEndsRow.holds Try.pinned (OpenSpec.ofChange fnValueEndOfPrefixIsDecidedByWhereTheValueEndsSpec)

/-- ITS FALSE NEIGHBOUR: 'it returns false'. Refute it at one input. -/
def fnValueEndOfPrefixIsDecidedByWhereTheValueEndsWrong : ChangeSpec := { name := "fnValueEndOfPrefixIsDecidedByWhereTheValueEnds", fn := fun _ => fun
  | [d1, d2, d3] => { results := [.lit (.bool false)], args := [d1, d2, d3] }
  | _ => none }
def FnValueEndOfPrefixIsDecidedByWhereTheValueEndsWrongFalsely : Prop := fnValueEndOfPrefixIsDecidedByWhereTheValueEndsRow.holds Try.pinned (OpenSpec.ofChange fnValueEndOfPrefixIsDecidedByWhereTheValueEndsWrong)

/-- 'zzlaws_internal_strictjson_b1.FnNestingIsCappedPeakBalance': WHATEVER THE INPUT: true; the input reads as it did. -/
def fnNestingIsCappedPeakBalanceSpec : ChangeSpec := { name := "fnNestingIsCappedPeakBalance", fn := fun _ => fun
  | [d] => { results := [.lit (.bool true)], args := [d] }
  | _ => none }
def fnNestingIsCappedPeakBalanceRow : OpenClaim := { program := "qxb6603377a", sum := "dc4077e1c27d694de73cbe4666f4a28191d31befaa22dd8e84bb1c5d9c656be6", func := "example.com/reinloop/reinloop/zzlaws_internal_strictjson_b1.FnNestingIsCappedPeakBalance", spec := "fnNestingIsCappedPeakBalance", inPlace := ["internal/bytealg.IndexByte"], apart := false }
def FnNestingIsCappedPeakBalanceSaid : Prop := fnNestingIsCappedPeakBalanceRow.holds Try.pinned (OpenSpec.ofChange fnNestingIsCappedPeakBalanceSpec)

/-- ITS FALSE NEIGHBOUR: 'it returns false'. Refute it at one input. -/
def fnNestingIsCappedPeakBalanceWrong : ChangeSpec := { name := "fnNestingIsCappedPeakBalance", fn := fun _ => fun
  | [d] => { results := [.lit (.bool false)], args := [d] }
  | _ => none }
def FnNestingIsCappedPeakBalanceWrongFalsely : Prop := fnNestingIsCappedPeakBalanceRow.holds Try.pinned (OpenSpec.ofChange fnNestingIsCappedPeakBalanceWrong)

/-- 'zzlaws_internal_strictjson_b1.FnNestingOfBracketedIsOneMore': WHATEVER THE INPUT: true; the input reads as it did. -/
def fnNestingOfBracketedIsOneMoreSpec : ChangeSpec := { name := "fnNestingOfBracketedIsOneMore", fn := fun _ => fun
  | [d] => { results := [.lit (.bool true)], args := [d] }
  | _ => none }
def fnNestingOfBracketedIsOneMoreRow : OpenClaim := { program := "qxb6603377a", sum := "dc4077e1c27d694de73cbe4666f4a28191d31befaa22dd8e84bb1c5d9c656be6", func := "example.com/reinloop/reinloop/zzlaws_internal_strictjson_b1.FnNestingOfBracketedIsOneMore", spec := "fnNestingOfBracketedIsOneMore", inPlace := ["internal/bytealg.IndexByte"], apart := false }
def FnNestingOfBracketedIsOneMoreSaid : Prop := fnNestingOfBracketedIsOneMoreRow.holds Try.pinned (OpenSpec.ofChange fnNestingOfBracketedIsOneMoreSpec)

/-- ITS FALSE NEIGHBOUR: 'it returns false'. Refute it at one input. -/
def fnNestingOfBracketedIsOneMoreWrong : ChangeSpec := { name := "fnNestingOfBracketedIsOneMore", fn := fun _ => fun
  | [d] => { results := [.lit (.bool false)], args := [d] }
  | _ => none }
def FnNestingOfBracketedIsOneMoreWrongFalsely : Prop := fnNestingOfBracketedIsOneMoreRow.holds Try.pinned (OpenSpec.ofChange fnNestingOfBracketedIsOneMoreWrong)

/-- 'zzlaws_internal_strictjson_b1.FnNestingOfPrefixIsNoGreater': WHATEVER THE INPUT: true; the input reads as it did. -/
def fnNestingOfPrefixIsNoGreaterSpec : ChangeSpec := { name := "fnNestingOfPrefixIsNoGreater", fn := fun _ => fun
  | [d1, d2] => { results := [.lit (.bool true)], args := [d1, d2] }
  | _ => none }
def fnNestingOfPrefixIsNoGreaterRow : OpenClaim := { program := "qxb6603377a", sum := "dc4077e1c27d694de73cbe4666f4a28191d31befaa22dd8e84bb1c5d9c656be6", func := "example.com/reinloop/reinloop/zzlaws_internal_strictjson_b1.FnNestingOfPrefixIsNoGreater", spec := "fnNestingOfPrefixIsNoGreater", inPlace := ["internal/bytealg.IndexByte"], apart := false }
def FnNestingOfPrefixIsNoGreaterSaid : Prop := fnNestingOfPrefixIsNoGreaterRow.holds Try.pinned (OpenSpec.ofChange fnNestingOfPrefixIsNoGreaterSpec)

/-- ITS FALSE NEIGHBOUR: 'it returns false'. Refute it at one input. -/
def fnNestingOfPrefixIsNoGreaterWrong : ChangeSpec := { name := "fnNestingOfPrefixIsNoGreater", fn := fun _ => fun
  | [d1, d2] => { results := [.lit (.bool false)], args := [d1, d2] }
  | _ => none }
def FnNestingOfPrefixIsNoGreaterWrongFalsely : Prop := fnNestingOfPrefixIsNoGreaterRow.holds Try.pinned (OpenSpec.ofChange fnNestingOfPrefixIsNoGreaterWrong)

end Rows
end Go.Proofs.Qxb6603377a
