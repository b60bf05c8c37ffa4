/-
  No cell of these rows narrows 'for every input' (looked for: loops, veiled, ifaces, maps, wideKeys, modest, calm, conditions, laid).
  DERIVED. THE GIVEN ROWS OF THIS SEAT. 4 by the template 'for every input the law returns true; each argument reads behind the call as it read before'; 0 by the template 'total and deterministic' (their statements: Qxb6605324aTotals.lean).
  GIVEN WITH THE SEED: the statements are not yours to turn. If you find one false, say at which input.
  Laid BY PROGRAM, IN A SANDBOX (cutbox-rows.mjs): the forced cells as the released guide's own fill.sh prints them over the translation 88bcd695f1b15dc0… (all of the seat's roots in one cut). By AI agents, Wed Nov 11 2026. No macro, syntax, notation, axiom, sorry.
-/
import Derived.Test.Qxb6605324aChecked
import GoSem.Claim
import GoSem.ClaimJoined
import GoSem.ClaimMapViews
import Derived.JoinedTies
import Derived.KernelRfl
namespace Go.Proofs.Qxb6605324a
/- THE CELL 'sum', in the pinned program and in every row, IS THE sha256 OF THE DUMP (.gsa) THAT Qxb6605324aProg.lean LOADS. Nothing in Lean hashes anything: it is a label: what it is worth is what the hold of that sum in a sandbox is worth. -/
noncomputable def Try.pinned : Pinned := { name := "qxb6605324a", sum := "88bcd695f1b15dc04f3a43bd33091a249d3ee3c109bfa81fe9404bc8b470ff0c", checked := Try.checked }
namespace Rows
def none {H : Type} : Left H := { results := [], args := [] }

/-- 'zzlaws_internal_http1_b1.FnParseLengthExact': WHATEVER THE INPUT: true; the input reads as it did. -/
def fnParseLengthExactSpec : ChangeSpec := { name := "fnParseLengthExact", fn := fun _ => fun
  | [d] => { results := [.lit (.bool true)], args := [d] }
  | _ => none }
def fnParseLengthExactRow : OpenClaim := { program := "qxb6605324a", sum := "88bcd695f1b15dc04f3a43bd33091a249d3ee3c109bfa81fe9404bc8b470ff0c", func := "example.com/spillway/spillway/zzlaws_internal_http1_b1.FnParseLengthExact", spec := "fnParseLengthExact", apart := false }
def FnParseLengthExactSaid : Prop := fnParseLengthExactRow.holds Try.pinned (OpenSpec.ofChange fnParseLengthExactSpec)

/-- ITS FALSE NEIGHBOUR: 'it returns false'. Refute it at one input. -/
def fnParseLengthExactWrong : ChangeSpec := { name := "fnParseLengthExact", fn := fun _ => fun
  | [d] => { results := [.lit (.bool false)], args := [d] }
  | _ => none }
def FnParseLengthExactWrongFalsely : Prop := fnParseLengthExactRow.holds Try.pinned (OpenSpec.ofChange fnParseLengthExactWrong)

/-- 'zzlaws_internal_http1_b1.FnParseLengthRoundTrip': WHATEVER THE INPUT: true; the input reads as it did. -/
def fnParseLengthRoundTripSpec : ChangeSpec := { name := "fnParseLengthRoundTrip", fn := fun _ => fun
  | [d1, d2] => { results := [.lit (.bool true)], args := [d1, d2] }
  | _ => none }
def fnParseLengthRoundTripRow : OpenClaim := { program := "qxb6605324a", sum := "88bcd695f1b15dc04f3a43bd33091a249d3ee3c109bfa81fe9404bc8b470ff0c", func := "example.com/spillway/spillway/zzlaws_internal_http1_b1.FnParseLengthRoundTrip", spec := "fnParseLengthRoundTrip", apart := false }
def FnParseLengthRoundTripSaid : Prop := fnParseLengthRoundTripRow.holds Try.pinned (OpenSpec.ofChange fnParseLengthRoundTripSpec)

/-- ITS FALSE NEIGHBOUR: 'it returns false'. Refute it at one input. -/
def fnParseLengthRoundTripWrong : ChangeSpec := { name := "fnParseLengthRoundTrip", fn := fun _ => fun
  | [d1, d2] => { results := [.lit (.bool false)], args := [d1, d2] }
  | _ => none }
def FnParseLengthRoundTripWrongFalsely : Prop := fnParseLengthRoundTripRow.holds Try.pinned (OpenSpec.ofChange fnParseLengthRoundTripWrong)

/-- 'zzlaws_internal_http1_b1.FnAlphanumericOrExact': WHATEVER THE INPUT: true; the input reads as it did. -/
def fnAlphanumericOrExactSpec : ChangeSpec := { name := "fnAlphanumericOrExact", fn := fun _ => fun
  | [d1, d2] => { results := [.lit (.bool true)], args := [d1, d2] }
  | _ => none }
def fnAlphanumericOrExactRow : OpenClaim := { program := "qxb6605324a", sum := "88bcd695f1b15dc04f3a43bd33091a249d3ee3c109bfa81fe9404bc8b470ff0c", func := "example.com/spillway/spillway/zzlaws_internal_http1_b1.FnAlphanumericOrExact", spec := "fnAlphanumericOrExact", inPlace := ["internal/bytealg.IndexByteString"], apart := false }
def FnAlphanumericOrExactSaid : Prop := fnAlphanumericOrExactRow.holds Try.pinned (OpenSpec.ofChange fnAlphanumericOrExactSpec)

/-- ITS FALSE NEIGHBOUR: 'it returns false'. Refute it at one input. -/
def fnAlphanumericOrExactWrong : ChangeSpec := { name := "fnAlphanumericOrExact", fn := fun _ => fun
  | [d1, d2] => { results := [.lit (.bool false)], args := [d1, d2] }
  | _ => none }
def FnAlphanumericOrExactWrongFalsely : Prop := fnAlphanumericOrExactRow.holds Try.pinned (OpenSpec.ofChange fnAlphanumericOrExactWrong)

/-- 'zzlaws_internal_http1_b1.FnAlphanumericOrSelfAndSplit': WHATEVER THE INPUT: true; the input reads as it did. -/
def fnAlphanumericOrSelfAndSplitSpec : ChangeSpec := { name := "fnAlphanumericOrSelfAndSplit", fn := fun _ => fun
  | [d1, d2, d3] => { results := [.lit (.bool true)], args := [d1, d2, d3] }
  | _ => none }
def fnAlphanumericOrSelfAndSplitRow : OpenClaim := { program := "qxb6605324a", sum := "88bcd695f1b15dc04f3a43bd33091a249d3ee3c109bfa81fe9404bc8b470ff0c", func := "example.com/spillway/spillway/zzlaws_internal_http1_b1.FnAlphanumericOrSelfAndSplit", spec := "fnAlphanumericOrSelfAndSplit", inPlace := ["internal/bytealg.IndexByteString"], apart := false }
def FnAlphanumericOrSelfAndSplitSaid : Prop := fnAlphanumericOrSelfAndSplitRow.holds Try.pinned (OpenSpec.ofChange fnAlphanumericOrSelfAndSplitSpec)

/-- ITS FALSE NEIGHBOUR: 'it returns false'. Refute it at one input. -/
def fnAlphanumericOrSelfAndSplitWrong : ChangeSpec := { name := "fnAlphanumericOrSelfAndSplit", fn := fun _ => fun
  | [d1, d2, d3] => { results := [.lit (.bool false)], args := [d1, d2, d3] }
  | _ => none }
def FnAlphanumericOrSelfAndSplitWrongFalsely : Prop := fnAlphanumericOrSelfAndSplitRow.holds Try.pinned (OpenSpec.ofChange fnAlphanumericOrSelfAndSplitWrong)

end Rows
end Go.Proofs.Qxb6605324a
