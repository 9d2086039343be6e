/-
  No cell of these rows narrows 'for every input' (looked for: loops, veiled, ifaces, maps, wideKeys, modest, calm, conditions, laid).
  DERIVED. THE GIVEN ROWS OF THIS SEAT. 6 by the template 'for every input the law returns true; each argument reads behind the call as it read before'; 0 by the template 'total and deterministic' (their statements: Qxb6000003aTotals.lean).
  GIVEN WITH THE SEED: the statements are not yours to turn. If you find one false, say at which input.
  Laid BY PROGRAM, IN A SANDBOX (cutbox-rows.mjs): the forced cells as the released guide's own fill.sh prints them over the translation 0367a89f7bdfb570… (all of the seat's roots in one cut). By AI agents, Wed Nov 11 2026. No macro, syntax, notation, axiom, sorry.
-/
import Derived.Test.Qxb6000003aChecked
import GoSem.Claim
import GoSem.ClaimJoined
import GoSem.ClaimMapViews
import Derived.JoinedTies
import Derived.KernelRfl
namespace Go.Proofs.Qxb6000003a
/- THE CELL 'sum', in the pinned program and in every row, IS THE sha256 OF THE DUMP (.gsa) THAT Qxb6000003aProg.lean LOADS. Nothing in Lean hashes anything: it is a label: what it is worth is what the hold of that sum in a sandbox is worth. -/
noncomputable def Try.pinned : Pinned := { name := "qxb6000003a", sum := "0367a89f7bdfb57095317b91da71d297790fbb1dd9cac1a6a624aff4fec6e241", checked := Try.checked }
namespace Rows
def none {H : Type} : Left H := { results := [], args := [] }

/-- 'zzlaws_root_b1.FnSerialOrderPlacesEachFinishingCallBySlot': WHATEVER THE INPUT: true; the input reads as it did. -/
def fnSerialOrderPlacesEachFinishingCallBySlotSpec : ChangeSpec := { name := "fnSerialOrderPlacesEachFinishingCallBySlot", fn := fun _ => fun
  | [d1, d2] => { results := [.lit (.bool true)], args := [d1, d2] }
  | _ => none }
def fnSerialOrderPlacesEachFinishingCallBySlotRow : OpenClaim := { program := "qxb6000003a", sum := "0367a89f7bdfb57095317b91da71d297790fbb1dd9cac1a6a624aff4fec6e241", func := "example.com/interlace/interlace/zzlaws_root_b1.FnSerialOrderPlacesEachFinishingCallBySlot", spec := "fnSerialOrderPlacesEachFinishingCallBySlot", apart := false }
def FnSerialOrderPlacesEachFinishingCallBySlotSaid : Prop := fnSerialOrderPlacesEachFinishingCallBySlotRow.holds Try.pinned (OpenSpec.ofChange fnSerialOrderPlacesEachFinishingCallBySlotSpec)

/-- ITS FALSE NEIGHBOUR: 'it returns false'. Refute it at one input. -/
def fnSerialOrderPlacesEachFinishingCallBySlotWrong : ChangeSpec := { name := "fnSerialOrderPlacesEachFinishingCallBySlot", fn := fun _ => fun
  | [d1, d2] => { results := [.lit (.bool false)], args := [d1, d2] }
  | _ => none }
def FnSerialOrderPlacesEachFinishingCallBySlotWrongFalsely : Prop := fnSerialOrderPlacesEachFinishingCallBySlotRow.holds Try.pinned (OpenSpec.ofChange fnSerialOrderPlacesEachFinishingCallBySlotWrong)

/-- 'zzlaws_root_b1.FnSerialOrderAppendsItsAnswerAfterWhatItIsGiven': WHATEVER THE INPUT: true; the input reads as it did. -/
def fnSerialOrderAppendsItsAnswerAfterWhatItIsGivenSpec : ChangeSpec := { name := "fnSerialOrderAppendsItsAnswerAfterWhatItIsGiven", fn := fun _ => fun
  | [d1, d2] => { results := [.lit (.bool true)], args := [d1, d2] }
  | _ => none }
def fnSerialOrderAppendsItsAnswerAfterWhatItIsGivenRow : OpenClaim := { program := "qxb6000003a", sum := "0367a89f7bdfb57095317b91da71d297790fbb1dd9cac1a6a624aff4fec6e241", func := "example.com/interlace/interlace/zzlaws_root_b1.FnSerialOrderAppendsItsAnswerAfterWhatItIsGiven", spec := "fnSerialOrderAppendsItsAnswerAfterWhatItIsGiven", apart := false }
def FnSerialOrderAppendsItsAnswerAfterWhatItIsGivenSaid : Prop := fnSerialOrderAppendsItsAnswerAfterWhatItIsGivenRow.holds Try.pinned (OpenSpec.ofChange fnSerialOrderAppendsItsAnswerAfterWhatItIsGivenSpec)

/-- ITS FALSE NEIGHBOUR: 'it returns false'. Refute it at one input. -/
def fnSerialOrderAppendsItsAnswerAfterWhatItIsGivenWrong : ChangeSpec := { name := "fnSerialOrderAppendsItsAnswerAfterWhatItIsGiven", fn := fun _ => fun
  | [d1, d2] => { results := [.lit (.bool false)], args := [d1, d2] }
  | _ => none }
def FnSerialOrderAppendsItsAnswerAfterWhatItIsGivenWrongFalsely : Prop := fnSerialOrderAppendsItsAnswerAfterWhatItIsGivenRow.holds Try.pinned (OpenSpec.ofChange fnSerialOrderAppendsItsAnswerAfterWhatItIsGivenWrong)

/-- 'zzlaws_root_b1.FnCloneCallsCopiesEveryField': WHATEVER THE INPUT: true; the input reads as it did. -/
def fnCloneCallsCopiesEveryFieldSpec : ChangeSpec := { name := "fnCloneCallsCopiesEveryField", fn := fun _ => fun
  | [d1, d2, d3] => { results := [.lit (.bool true)], args := [d1, d2, d3] }
  | _ => none }
def fnCloneCallsCopiesEveryFieldRow : OpenClaim := { program := "qxb6000003a", sum := "0367a89f7bdfb57095317b91da71d297790fbb1dd9cac1a6a624aff4fec6e241", func := "example.com/interlace/interlace/zzlaws_root_b1.FnCloneCallsCopiesEveryField", spec := "fnCloneCallsCopiesEveryField", apart := false }
def FnCloneCallsCopiesEveryFieldSaid : Prop := fnCloneCallsCopiesEveryFieldRow.holds Try.pinned (OpenSpec.ofChange fnCloneCallsCopiesEveryFieldSpec)

/-- ITS FALSE NEIGHBOUR: 'it returns false'. Refute it at one input. -/
def fnCloneCallsCopiesEveryFieldWrong : ChangeSpec := { name := "fnCloneCallsCopiesEveryField", fn := fun _ => fun
  | [d1, d2, d3] => { results := [.lit (.bool false)], args := [d1, d2, d3] }
  | _ => none }
def FnCloneCallsCopiesEveryFieldWrongFalsely : Prop := fnCloneCallsCopiesEveryFieldRow.holds Try.pinned (OpenSpec.ofChange fnCloneCallsCopiesEveryFieldWrong)

/-- 'zzlaws_root_b1.FnCloneCallsSharesNoArgsWithItsInputOrItself': WHATEVER THE INPUT: true; the input reads as it did. -/
def fnCloneCallsSharesNoArgsWithItsInputOrItselfSpec : ChangeSpec := { name := "fnCloneCallsSharesNoArgsWithItsInputOrItself", fn := fun _ => fun
  | [d1, d2, d3] => { results := [.lit (.bool true)], args := [d1, d2, d3] }
  | _ => none }
def fnCloneCallsSharesNoArgsWithItsInputOrItselfRow : OpenClaim := { program := "qxb6000003a", sum := "0367a89f7bdfb57095317b91da71d297790fbb1dd9cac1a6a624aff4fec6e241", func := "example.com/interlace/interlace/zzlaws_root_b1.FnCloneCallsSharesNoArgsWithItsInputOrItself", spec := "fnCloneCallsSharesNoArgsWithItsInputOrItself", apart := false }
def FnCloneCallsSharesNoArgsWithItsInputOrItselfSaid : Prop := fnCloneCallsSharesNoArgsWithItsInputOrItselfRow.holds Try.pinned (OpenSpec.ofChange fnCloneCallsSharesNoArgsWithItsInputOrItselfSpec)

/-- ITS FALSE NEIGHBOUR: 'it returns false'. Refute it at one input. -/
def fnCloneCallsSharesNoArgsWithItsInputOrItselfWrong : ChangeSpec := { name := "fnCloneCallsSharesNoArgsWithItsInputOrItself", fn := fun _ => fun
  | [d1, d2, d3] => { results := [.lit (.bool false)], args := [d1, d2, d3] }
  | _ => none }
def FnCloneCallsSharesNoArgsWithItsInputOrItselfWrongFalsely : Prop := fnCloneCallsSharesNoArgsWithItsInputOrItselfRow.holds Try.pinned (OpenSpec.ofChange fnCloneCallsSharesNoArgsWithItsInputOrItselfWrong)

/-- 'zzlaws_root_b1.FnMakeRowDecodesBackToKeyAndFields': WHATEVER THE INPUT: true; the input reads as it did. -/
def fnMakeRowDecodesBackToKeyAndFieldsSpec : ChangeSpec := { name := "fnMakeRowDecodesBackToKeyAndFields", fn := fun _ => fun
  | [d1, d2, d3, d4] => { results := [.lit (.bool true)], args := [d1, d2, d3, d4] }
  | _ => none }
def fnMakeRowDecodesBackToKeyAndFieldsRow : OpenClaim := { program := "qxb6000003a", sum := "0367a89f7bdfb57095317b91da71d297790fbb1dd9cac1a6a624aff4fec6e241", func := "example.com/interlace/interlace/zzlaws_root_b1.FnMakeRowDecodesBackToKeyAndFields", spec := "fnMakeRowDecodesBackToKeyAndFields", inPlace := ["internal/abi.NoEscape", "internal/bytealg.MakeNoZero"], apart := false }
def FnMakeRowDecodesBackToKeyAndFieldsSaid : Prop := fnMakeRowDecodesBackToKeyAndFieldsRow.holds Try.pinned (OpenSpec.ofChange fnMakeRowDecodesBackToKeyAndFieldsSpec)

/-- ITS FALSE NEIGHBOUR: 'it returns false'. Refute it at one input. -/
def fnMakeRowDecodesBackToKeyAndFieldsWrong : ChangeSpec := { name := "fnMakeRowDecodesBackToKeyAndFields", fn := fun _ => fun
  | [d1, d2, d3, d4] => { results := [.lit (.bool false)], args := [d1, d2, d3, d4] }
  | _ => none }
def FnMakeRowDecodesBackToKeyAndFieldsWrongFalsely : Prop := fnMakeRowDecodesBackToKeyAndFieldsRow.holds Try.pinned (OpenSpec.ofChange fnMakeRowDecodesBackToKeyAndFieldsWrong)

/-- 'zzlaws_root_b1.FnMakeRowSplitsAtAnyField': WHATEVER THE INPUT: true; the input reads as it did. -/
def fnMakeRowSplitsAtAnyFieldSpec : ChangeSpec := { name := "fnMakeRowSplitsAtAnyField", fn := fun _ => fun
  | [d1, d2, d3, d4, d5] => { results := [.lit (.bool true)], args := [d1, d2, d3, d4, d5] }
  | _ => none }
def fnMakeRowSplitsAtAnyFieldRow : OpenClaim := { program := "qxb6000003a", sum := "0367a89f7bdfb57095317b91da71d297790fbb1dd9cac1a6a624aff4fec6e241", func := "example.com/interlace/interlace/zzlaws_root_b1.FnMakeRowSplitsAtAnyField", spec := "fnMakeRowSplitsAtAnyField", inPlace := ["internal/abi.NoEscape", "internal/bytealg.MakeNoZero"], apart := false }
def FnMakeRowSplitsAtAnyFieldSaid : Prop := fnMakeRowSplitsAtAnyFieldRow.holds Try.pinned (OpenSpec.ofChange fnMakeRowSplitsAtAnyFieldSpec)

/-- ITS FALSE NEIGHBOUR: 'it returns false'. Refute it at one input. -/
def fnMakeRowSplitsAtAnyFieldWrong : ChangeSpec := { name := "fnMakeRowSplitsAtAnyField", fn := fun _ => fun
  | [d1, d2, d3, d4, d5] => { results := [.lit (.bool false)], args := [d1, d2, d3, d4, d5] }
  | _ => none }
def FnMakeRowSplitsAtAnyFieldWrongFalsely : Prop := fnMakeRowSplitsAtAnyFieldRow.holds Try.pinned (OpenSpec.ofChange fnMakeRowSplitsAtAnyFieldWrong)

end Rows
end Go.Proofs.Qxb6000003a
