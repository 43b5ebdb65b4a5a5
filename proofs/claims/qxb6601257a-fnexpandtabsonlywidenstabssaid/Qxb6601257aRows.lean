/-
  No cell of these rows narrows 'for every input' (looked for: loops, veiled, ifaces, maps, wideKeys, modest, calm, conditions, laid).
  DERIVED. THE GIVEN ROWS OF THIS SEAT. 3 by the template 'for every input the law returns true; each argument reads behind the call as it read before'; 0 by the template 'total and deterministic' (their statements: Qxb6601257aTotals.lean).
  GIVEN WITH THE SEED: the statements are not yours to turn. If you find one false, say at which input.
  Laid BY PROGRAM, IN A SANDBOX (cutbox-rows.mjs): the forced cells as the released guide's own fill.sh prints them over the translation e6afcf8b1ca4578a… (all of the seat's roots in one cut). By AI agents, Wed Nov 11 2026. No macro, syntax, notation, axiom, sorry.
-/
import Derived.Test.Qxb6601257aChecked
import GoSem.Claim
import GoSem.ClaimJoined
import GoSem.ClaimMapViews
import Derived.JoinedTies
import Derived.KernelRfl
namespace Go.Proofs.Qxb6601257a
/- THE CELL 'sum', in the pinned program and in every row, IS THE sha256 OF THE DUMP (.gsa) THAT Qxb6601257aProg.lean LOADS. Nothing in Lean hashes anything: it is a label: what it is worth is what the hold of that sum in a sandbox is worth. -/
noncomputable def Try.pinned : Pinned := { name := "qxb6601257a", sum := "e6afcf8b1ca4578a50e91ba3c5ede1ca8251879f3e0e81858bc45b015c00d254", checked := Try.checked }
namespace Rows
def none {H : Type} : Left H := { results := [], args := [] }

/-- 'zzlaws_note_b1.FnExpandTabsIdempotent': WHATEVER THE INPUT: true; the input reads as it did. -/
def fnExpandTabsIdempotentSpec : ChangeSpec := { name := "fnExpandTabsIdempotent", fn := fun _ => fun
  | [d] => { results := [.lit (.bool true)], args := [d] }
  | _ => none }
def fnExpandTabsIdempotentRow : OpenClaim := { program := "qxb6601257a", sum := "e6afcf8b1ca4578a50e91ba3c5ede1ca8251879f3e0e81858bc45b015c00d254", func := "example.com/hybrd/hybrd/zzlaws_note_b1.FnExpandTabsIdempotent", spec := "fnExpandTabsIdempotent", inPlace := ["internal/bytealg.IndexByteString", "internal/abi.NoEscape", "internal/bytealg.MakeNoZero"], apart := false }
def FnExpandTabsIdempotentSaid : Prop := fnExpandTabsIdempotentRow.holds Try.pinned (OpenSpec.ofChange fnExpandTabsIdempotentSpec)

/-- ITS FALSE NEIGHBOUR: 'it returns false'. Refute it at one input. -/
def fnExpandTabsIdempotentWrong : ChangeSpec := { name := "fnExpandTabsIdempotent", fn := fun _ => fun
  | [d] => { results := [.lit (.bool false)], args := [d] }
  | _ => none }
def FnExpandTabsIdempotentWrongFalsely : Prop := fnExpandTabsIdempotentRow.holds Try.pinned (OpenSpec.ofChange fnExpandTabsIdempotentWrong)

/-- 'zzlaws_note_b1.FnExpandTabsOnlyWidensTabs': WHATEVER THE INPUT: true; the input reads as it did. -/
def fnExpandTabsOnlyWidensTabsSpec : ChangeSpec := { name := "fnExpandTabsOnlyWidensTabs", fn := fun _ => fun
  | [d] => { results := [.lit (.bool true)], args := [d] }
  | _ => none }
def fnExpandTabsOnlyWidensTabsRow : OpenClaim := { program := "qxb6601257a", sum := "e6afcf8b1ca4578a50e91ba3c5ede1ca8251879f3e0e81858bc45b015c00d254", func := "example.com/hybrd/hybrd/zzlaws_note_b1.FnExpandTabsOnlyWidensTabs", spec := "fnExpandTabsOnlyWidensTabs", inPlace := ["internal/bytealg.IndexByteString", "internal/abi.NoEscape", "internal/bytealg.MakeNoZero"], apart := false }
def FnExpandTabsOnlyWidensTabsSaid : Prop := fnExpandTabsOnlyWidensTabsRow.holds Try.pinned (OpenSpec.ofChange fnExpandTabsOnlyWidensTabsSpec)

/-- ITS FALSE NEIGHBOUR: 'it returns false'. Refute it at one input. -/
def fnExpandTabsOnlyWidensTabsWrong : ChangeSpec := { name := "fnExpandTabsOnlyWidensTabs", fn := fun _ => fun
  | [d] => { results := [.lit (.bool false)], args := [d] }
  | _ => none }
def FnExpandTabsOnlyWidensTabsWrongFalsely : Prop := fnExpandTabsOnlyWidensTabsRow.holds Try.pinned (OpenSpec.ofChange fnExpandTabsOnlyWidensTabsWrong)

/-- 'zzlaws_note_b1.FnOpeningRestIsSuffix': WHATEVER THE INPUT: true; the input reads as it did. -/
def fnOpeningRestIsSuffixSpec : ChangeSpec := { name := "fnOpeningRestIsSuffix", fn := fun _ => fun
  | [d] => { results := [.lit (.bool true)], args := [d] }
  | _ => none }
def fnOpeningRestIsSuffixRow : OpenClaim := { program := "qxb6601257a", sum := "e6afcf8b1ca4578a50e91ba3c5ede1ca8251879f3e0e81858bc45b015c00d254", func := "example.com/hybrd/hybrd/zzlaws_note_b1.FnOpeningRestIsSuffix", spec := "fnOpeningRestIsSuffix", inPlace := ["internal/bytealg.IndexByteString"], apart := false }
def FnOpeningRestIsSuffixSaid : Prop := fnOpeningRestIsSuffixRow.holds Try.pinned (OpenSpec.ofChange fnOpeningRestIsSuffixSpec)

/-- ITS FALSE NEIGHBOUR: 'it returns false'. Refute it at one input. -/
def fnOpeningRestIsSuffixWrong : ChangeSpec := { name := "fnOpeningRestIsSuffix", fn := fun _ => fun
  | [d] => { results := [.lit (.bool false)], args := [d] }
  | _ => none }
def FnOpeningRestIsSuffixWrongFalsely : Prop := fnOpeningRestIsSuffixRow.holds Try.pinned (OpenSpec.ofChange fnOpeningRestIsSuffixWrong)

end Rows
end Go.Proofs.Qxb6601257a
