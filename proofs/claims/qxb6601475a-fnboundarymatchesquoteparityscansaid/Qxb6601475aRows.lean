/-
  No cell of these rows narrows 'for every input' (looked for: loops, veiled, ifaces, maps, wideKeys, modest, calm, conditions, laid).
  DERIVED. THE GIVEN ROWS OF THIS SEAT. 5 by the template 'for every input the law returns true; each argument reads behind the call as it read before'; 0 by the template 'total and deterministic' (their statements: Qxb6601475aTotals.lean).
  GIVEN WITH THE SEED: the statements are not yours to turn. If you find one false, say at which input.
  Laid BY PROGRAM, IN A SANDBOX (cutbox-rows.mjs): the forced cells as the released guide's own fill.sh prints them over the translation 963456b41ef1ee8e… (all of the seat's roots in one cut). By AI agents, Wed Nov 11 2026. No macro, syntax, notation, axiom, sorry.
-/
import Derived.Test.Qxb6601475aChecked
import GoSem.Claim
import GoSem.ClaimJoined
import GoSem.ClaimMapViews
import Derived.JoinedTies
import Derived.KernelRfl
namespace Go.Proofs.Qxb6601475a
/- THE CELL 'sum', in the pinned program and in every row, IS THE sha256 OF THE DUMP (.gsa) THAT Qxb6601475aProg.lean LOADS. Nothing in Lean hashes anything: it is a label: what it is worth is what the hold of that sum in a sandbox is worth. -/
noncomputable def Try.pinned : Pinned := { name := "qxb6601475a", sum := "963456b41ef1ee8e2520806b8e79381889fe31bee9c77c00955073904fe0c228", checked := Try.checked }
namespace Rows
def none {H : Type} : Left H := { results := [], args := [] }

/-- 'zzlaws_pkg_table_b1.FnBoundaryMatchesQuoteParityScan': WHATEVER THE INPUT: true; the input reads as it did. -/
def fnBoundaryMatchesQuoteParityScanSpec : ChangeSpec := { name := "fnBoundaryMatchesQuoteParityScan", fn := fun _ => fun
  | [d] => { results := [.lit (.bool true)], args := [d] }
  | _ => none }
def fnBoundaryMatchesQuoteParityScanRow : OpenClaim := { program := "qxb6601475a", sum := "963456b41ef1ee8e2520806b8e79381889fe31bee9c77c00955073904fe0c228", func := "example.com/stanchion/stanchion/zzlaws_pkg_table_b1.FnBoundaryMatchesQuoteParityScan", spec := "fnBoundaryMatchesQuoteParityScan", inPlace := ["internal/bytealg.IndexByte"], apart := false }
def FnBoundaryMatchesQuoteParityScanSaid : Prop := fnBoundaryMatchesQuoteParityScanRow.holds Try.pinned (OpenSpec.ofChange fnBoundaryMatchesQuoteParityScanSpec)

/-- ITS FALSE NEIGHBOUR: 'it returns false'. Refute it at one input. -/
def fnBoundaryMatchesQuoteParityScanWrong : ChangeSpec := { name := "fnBoundaryMatchesQuoteParityScan", fn := fun _ => fun
  | [d] => { results := [.lit (.bool false)], args := [d] }
  | _ => none }
def FnBoundaryMatchesQuoteParityScanWrongFalsely : Prop := fnBoundaryMatchesQuoteParityScanRow.holds Try.pinned (OpenSpec.ofChange fnBoundaryMatchesQuoteParityScanWrong)

/-- 'zzlaws_pkg_table_b1.FnBoundarySplitsAtLastOutsideBreak': WHATEVER THE INPUT: true; the input reads as it did. -/
def fnBoundarySplitsAtLastOutsideBreakSpec : ChangeSpec := { name := "fnBoundarySplitsAtLastOutsideBreak", fn := fun _ => fun
  | [d] => { results := [.lit (.bool true)], args := [d] }
  | _ => none }
def fnBoundarySplitsAtLastOutsideBreakRow : OpenClaim := { program := "qxb6601475a", sum := "963456b41ef1ee8e2520806b8e79381889fe31bee9c77c00955073904fe0c228", func := "example.com/stanchion/stanchion/zzlaws_pkg_table_b1.FnBoundarySplitsAtLastOutsideBreak", spec := "fnBoundarySplitsAtLastOutsideBreak", inPlace := ["internal/bytealg.IndexByte"], apart := false }
def FnBoundarySplitsAtLastOutsideBreakSaid : Prop := fnBoundarySplitsAtLastOutsideBreakRow.holds Try.pinned (OpenSpec.ofChange fnBoundarySplitsAtLastOutsideBreakSpec)

/-- ITS FALSE NEIGHBOUR: 'it returns false'. Refute it at one input. -/
def fnBoundarySplitsAtLastOutsideBreakWrong : ChangeSpec := { name := "fnBoundarySplitsAtLastOutsideBreak", fn := fun _ => fun
  | [d] => { results := [.lit (.bool false)], args := [d] }
  | _ => none }
def FnBoundarySplitsAtLastOutsideBreakWrongFalsely : Prop := fnBoundarySplitsAtLastOutsideBreakRow.holds Try.pinned (OpenSpec.ofChange fnBoundarySplitsAtLastOutsideBreakWrong)

/-- 'zzlaws_pkg_table_b1.FnBoundaryOfJoinAfterWholeQuotes': WHATEVER THE INPUT: true; the input reads as it did. -/
def fnBoundaryOfJoinAfterWholeQuotesSpec : ChangeSpec := { name := "fnBoundaryOfJoinAfterWholeQuotes", fn := fun _ => fun
  | [d1, d2] => { results := [.lit (.bool true)], args := [d1, d2] }
  | _ => none }
def fnBoundaryOfJoinAfterWholeQuotesRow : OpenClaim := { program := "qxb6601475a", sum := "963456b41ef1ee8e2520806b8e79381889fe31bee9c77c00955073904fe0c228", func := "example.com/stanchion/stanchion/zzlaws_pkg_table_b1.FnBoundaryOfJoinAfterWholeQuotes", spec := "fnBoundaryOfJoinAfterWholeQuotes", inPlace := ["internal/bytealg.IndexByte"], apart := false }
def FnBoundaryOfJoinAfterWholeQuotesSaid : Prop := fnBoundaryOfJoinAfterWholeQuotesRow.holds Try.pinned (OpenSpec.ofChange fnBoundaryOfJoinAfterWholeQuotesSpec)

/-- ITS FALSE NEIGHBOUR: 'it returns false'. Refute it at one input. -/
def fnBoundaryOfJoinAfterWholeQuotesWrong : ChangeSpec := { name := "fnBoundaryOfJoinAfterWholeQuotes", fn := fun _ => fun
  | [d1, d2] => { results := [.lit (.bool false)], args := [d1, d2] }
  | _ => none }
def FnBoundaryOfJoinAfterWholeQuotesWrongFalsely : Prop := fnBoundaryOfJoinAfterWholeQuotesRow.holds Try.pinned (OpenSpec.ofChange fnBoundaryOfJoinAfterWholeQuotesWrong)

/-- 'zzlaws_pkg_table_b1.FnLineAtWalkCoversText': WHATEVER THE INPUT: true; the input reads as it did. -/
def fnLineAtWalkCoversTextSpec : ChangeSpec := { name := "fnLineAtWalkCoversText", fn := fun _ => fun
  | [d1, d2, d3] => { results := [.lit (.bool true)], args := [d1, d2, d3] }
  | _ => none }
def fnLineAtWalkCoversTextRow : OpenClaim := { program := "qxb6601475a", sum := "963456b41ef1ee8e2520806b8e79381889fe31bee9c77c00955073904fe0c228", func := "example.com/stanchion/stanchion/zzlaws_pkg_table_b1.FnLineAtWalkCoversText", spec := "fnLineAtWalkCoversText", inPlace := ["internal/bytealg.IndexByte"], apart := false }
def FnLineAtWalkCoversTextSaid : Prop := fnLineAtWalkCoversTextRow.holds Try.pinned (OpenSpec.ofChange fnLineAtWalkCoversTextSpec)

/-- ITS FALSE NEIGHBOUR: 'it returns false'. Refute it at one input. -/
def fnLineAtWalkCoversTextWrong : ChangeSpec := { name := "fnLineAtWalkCoversText", fn := fun _ => fun
  | [d1, d2, d3] => { results := [.lit (.bool false)], args := [d1, d2, d3] }
  | _ => none }
def FnLineAtWalkCoversTextWrongFalsely : Prop := fnLineAtWalkCoversTextRow.holds Try.pinned (OpenSpec.ofChange fnLineAtWalkCoversTextWrong)

/-- 'zzlaws_pkg_table_b1.FnLineAtLastMattersOnlyAtTheEnd': WHATEVER THE INPUT: true; the input reads as it did. -/
def fnLineAtLastMattersOnlyAtTheEndSpec : ChangeSpec := { name := "fnLineAtLastMattersOnlyAtTheEnd", fn := fun _ => fun
  | [d1, d2, d3] => { results := [.lit (.bool true)], args := [d1, d2, d3] }
  | _ => none }
def fnLineAtLastMattersOnlyAtTheEndRow : OpenClaim := { program := "qxb6601475a", sum := "963456b41ef1ee8e2520806b8e79381889fe31bee9c77c00955073904fe0c228", func := "example.com/stanchion/stanchion/zzlaws_pkg_table_b1.FnLineAtLastMattersOnlyAtTheEnd", spec := "fnLineAtLastMattersOnlyAtTheEnd", inPlace := ["internal/bytealg.IndexByte"], apart := false }
def FnLineAtLastMattersOnlyAtTheEndSaid : Prop := fnLineAtLastMattersOnlyAtTheEndRow.holds Try.pinned (OpenSpec.ofChange fnLineAtLastMattersOnlyAtTheEndSpec)

/-- ITS FALSE NEIGHBOUR: 'it returns false'. Refute it at one input. -/
def fnLineAtLastMattersOnlyAtTheEndWrong : ChangeSpec := { name := "fnLineAtLastMattersOnlyAtTheEnd", fn := fun _ => fun
  | [d1, d2, d3] => { results := [.lit (.bool false)], args := [d1, d2, d3] }
  | _ => none }
def FnLineAtLastMattersOnlyAtTheEndWrongFalsely : Prop := fnLineAtLastMattersOnlyAtTheEndRow.holds Try.pinned (OpenSpec.ofChange fnLineAtLastMattersOnlyAtTheEndWrong)

end Rows
end Go.Proofs.Qxb6601475a
