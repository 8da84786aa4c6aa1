/-
  NARROWER THAN 'FOR EVERY INPUT', by the rows' own cells (each row's printed sentence says how): FnAppendEscapedSplitsAndCountsByByte: maps.
  DERIVED. THE GIVEN ROWS OF THIS SEAT. 3 by the template 'for every input the law returns true; each argument reads behind the call as it read before'; 0 by the template 'total and deterministic' (their statements: Qxb6603681aTotals.lean).
  GIVEN WITH THE SEED: the statements are not yours to turn. If you find one false, say at which input.
  Laid BY PROGRAM, IN A SANDBOX (cutbox-rows.mjs): the forced cells as the released guide's own fill.sh prints them over the translation 517601a69e329c8f… (all of the seat's roots in one cut). By AI agents, Wed Nov 11 2026. No macro, syntax, notation, axiom, sorry.
-/
import Derived.Test.Qxb6603681aChecked
import GoSem.Claim
import GoSem.ClaimJoined
import GoSem.ClaimMapViews
import Derived.JoinedTies
import Derived.KernelRfl
namespace Go.Proofs.Qxb6603681a
/- THE CELL 'sum', in the pinned program and in every row, IS THE sha256 OF THE DUMP (.gsa) THAT Qxb6603681aProg.lean LOADS. Nothing in Lean hashes anything: it is a label: what it is worth is what the hold of that sum in a sandbox is worth. -/
noncomputable def Try.pinned : Pinned := { name := "qxb6603681a", sum := "517601a69e329c8f30fca3f0138d0bbca01c4186f5cea3f6d15deb5eb4dc4f6c", checked := Try.checked }
namespace Rows
def none {H : Type} : Left H := { results := [], args := [] }

/-- 'zzlaws_rdf_b1.FnHasTabOrBreakIsAnyTabLFOrCR': WHATEVER THE INPUT: true; the input reads as it did. -/
def fnHasTabOrBreakIsAnyTabLFOrCRSpec : ChangeSpec := { name := "fnHasTabOrBreakIsAnyTabLFOrCR", fn := fun _ => fun
  | [d] => { results := [.lit (.bool true)], args := [d] }
  | _ => none }
def fnHasTabOrBreakIsAnyTabLFOrCRRow : OpenClaim := { program := "qxb6603681a", sum := "517601a69e329c8f30fca3f0138d0bbca01c4186f5cea3f6d15deb5eb4dc4f6c", func := "example.com/wayfarer/wayfarer/zzlaws_rdf_b1.FnHasTabOrBreakIsAnyTabLFOrCR", spec := "fnHasTabOrBreakIsAnyTabLFOrCR", inPlace := ["internal/bytealg.IndexByte"], apart := false }
def FnHasTabOrBreakIsAnyTabLFOrCRSaid : Prop := fnHasTabOrBreakIsAnyTabLFOrCRRow.holds Try.pinned (OpenSpec.ofChange fnHasTabOrBreakIsAnyTabLFOrCRSpec)

/-- ITS FALSE NEIGHBOUR: 'it returns false'. Refute it at one input. -/
def fnHasTabOrBreakIsAnyTabLFOrCRWrong : ChangeSpec := { name := "fnHasTabOrBreakIsAnyTabLFOrCR", fn := fun _ => fun
  | [d] => { results := [.lit (.bool false)], args := [d] }
  | _ => none }
def FnHasTabOrBreakIsAnyTabLFOrCRWrongFalsely : Prop := fnHasTabOrBreakIsAnyTabLFOrCRRow.holds Try.pinned (OpenSpec.ofChange fnHasTabOrBreakIsAnyTabLFOrCRWrong)

/-- 'zzlaws_rdf_b1.FnHasTabOrBreakSplitsFiltersAndInserts': WHATEVER THE INPUT: true; the input reads as it did. -/
def fnHasTabOrBreakSplitsFiltersAndInsertsSpec : ChangeSpec := { name := "fnHasTabOrBreakSplitsFiltersAndInserts", fn := fun _ => fun
  | [d1, d2, d3] => { results := [.lit (.bool true)], args := [d1, d2, d3] }
  | _ => none }
def fnHasTabOrBreakSplitsFiltersAndInsertsRow : OpenClaim := { program := "qxb6603681a", sum := "517601a69e329c8f30fca3f0138d0bbca01c4186f5cea3f6d15deb5eb4dc4f6c", func := "example.com/wayfarer/wayfarer/zzlaws_rdf_b1.FnHasTabOrBreakSplitsFiltersAndInserts", spec := "fnHasTabOrBreakSplitsFiltersAndInserts", inPlace := ["internal/bytealg.IndexByte"], apart := false }
def FnHasTabOrBreakSplitsFiltersAndInsertsSaid : Prop := fnHasTabOrBreakSplitsFiltersAndInsertsRow.holds Try.pinned (OpenSpec.ofChange fnHasTabOrBreakSplitsFiltersAndInsertsSpec)

/-- ITS FALSE NEIGHBOUR: 'it returns false'. Refute it at one input. -/
def fnHasTabOrBreakSplitsFiltersAndInsertsWrong : ChangeSpec := { name := "fnHasTabOrBreakSplitsFiltersAndInserts", fn := fun _ => fun
  | [d1, d2, d3] => { results := [.lit (.bool false)], args := [d1, d2, d3] }
  | _ => none }
def FnHasTabOrBreakSplitsFiltersAndInsertsWrongFalsely : Prop := fnHasTabOrBreakSplitsFiltersAndInsertsRow.holds Try.pinned (OpenSpec.ofChange fnHasTabOrBreakSplitsFiltersAndInsertsWrong)

/-- 'zzlaws_rdf_b1.FnAppendEscapedSplitsAndCountsByByte': WHATEVER THE INPUT: true; the input reads as it did. -/
def fnAppendEscapedSplitsAndCountsByByteSpec : ChangeSpec := { name := "fnAppendEscapedSplitsAndCountsByByte", fn := fun _ => fun
  | [d1, d2, d3, d4] => { results := [.lit (.bool true)], args := [d1, d2, d3, d4] }
  | _ => none }
def fnAppendEscapedSplitsAndCountsByByteRow : OpenClaim := { program := "qxb6603681a", sum := "517601a69e329c8f30fca3f0138d0bbca01c4186f5cea3f6d15deb5eb4dc4f6c", func := "example.com/wayfarer/wayfarer/zzlaws_rdf_b1.FnAppendEscapedSplitsAndCountsByByte", spec := "fnAppendEscapedSplitsAndCountsByByte", maps := true, apart := false }
def FnAppendEscapedSplitsAndCountsByByteSaid : Prop := fnAppendEscapedSplitsAndCountsByByteRow.holds Try.pinned (OpenSpec.ofChange fnAppendEscapedSplitsAndCountsByByteSpec)

/-- ITS FALSE NEIGHBOUR: 'it returns false'. Refute it at one input. -/
def fnAppendEscapedSplitsAndCountsByByteWrong : ChangeSpec := { name := "fnAppendEscapedSplitsAndCountsByByte", fn := fun _ => fun
  | [d1, d2, d3, d4] => { results := [.lit (.bool false)], args := [d1, d2, d3, d4] }
  | _ => none }
def FnAppendEscapedSplitsAndCountsByByteWrongFalsely : Prop := fnAppendEscapedSplitsAndCountsByByteRow.holds Try.pinned (OpenSpec.ofChange fnAppendEscapedSplitsAndCountsByByteWrong)

end Rows
end Go.Proofs.Qxb6603681a
