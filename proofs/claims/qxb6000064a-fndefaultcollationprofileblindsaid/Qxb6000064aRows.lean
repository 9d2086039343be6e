/-
  No cell of these rows narrows 'for every input' (looked for: loops, veiled, ifaces, maps, wideKeys, modest, calm, conditions, laid).
  DERIVED. THE GIVEN ROWS OF THIS SEAT. 2 by the template 'for every input the law returns true; each argument reads behind the call as it read before'; 0 by the template 'total and deterministic' (their statements: Qxb6000064aTotals.lean).
  GIVEN WITH THE SEED: the statements are not yours to turn. If you find one false, say at which input.
  Laid BY PROGRAM, IN A SANDBOX (cutbox-rows.mjs): the forced cells as the released guide's own fill.sh prints them over the translation 757b7a347e1ddbe7… (all of the seat's roots in one cut). By AI agents, Wed Nov 11 2026. No macro, syntax, notation, axiom, sorry.
-/
import Derived.Test.Qxb6000064aChecked
import GoSem.Claim
import GoSem.ClaimJoined
import GoSem.ClaimMapViews
import Derived.JoinedTies
import Derived.KernelRfl
namespace Go.Proofs.Qxb6000064a
/- THE CELL 'sum', in the pinned program and in every row, IS THE sha256 OF THE DUMP (.gsa) THAT Qxb6000064aProg.lean LOADS. Nothing in Lean hashes anything: it is a label: what it is worth is what the hold of that sum in a sandbox is worth. -/
noncomputable def Try.pinned : Pinned := { name := "qxb6000064a", sum := "757b7a347e1ddbe75fa16035c19cd30e87fb443e08ce29c94e2ee44173895e11", checked := Try.checked }
namespace Rows
def none {H : Type} : Left H := { results := [], args := [] }

/-- 'zzlaws_pkg_engine_b1.FnOutcomeStringParseInverse': WHATEVER THE INPUT: true; the input reads as it did. -/
def fnOutcomeStringParseInverseSpec : ChangeSpec := { name := "fnOutcomeStringParseInverse", fn := fun _ => fun
  | [d] => { results := [.lit (.bool true)], args := [d] }
  | _ => none }
def fnOutcomeStringParseInverseRow : OpenClaim := { program := "qxb6000064a", sum := "757b7a347e1ddbe75fa16035c19cd30e87fb443e08ce29c94e2ee44173895e11", func := "example.com/gapwise/gapwise/zzlaws_pkg_engine_b1.FnOutcomeStringParseInverse", spec := "fnOutcomeStringParseInverse", apart := false }
def FnOutcomeStringParseInverseSaid : Prop := fnOutcomeStringParseInverseRow.holds Try.pinned (OpenSpec.ofChange fnOutcomeStringParseInverseSpec)

/-- ITS FALSE NEIGHBOUR: 'it returns false'. Refute it at one input. -/
def fnOutcomeStringParseInverseWrong : ChangeSpec := { name := "fnOutcomeStringParseInverse", fn := fun _ => fun
  | [d] => { results := [.lit (.bool false)], args := [d] }
  | _ => none }
def FnOutcomeStringParseInverseWrongFalsely : Prop := fnOutcomeStringParseInverseRow.holds Try.pinned (OpenSpec.ofChange fnOutcomeStringParseInverseWrong)

/-- 'zzlaws_pkg_engine_b1.FnDefaultCollationProfileBlind': WHATEVER THE INPUT: true; the input reads as it did. -/
def fnDefaultCollationProfileBlindSpec : ChangeSpec := { name := "fnDefaultCollationProfileBlind", fn := fun _ => fun
  | [d1, d2, d3] => { results := [.lit (.bool true)], args := [d1, d2, d3] }
  | _ => none }
def fnDefaultCollationProfileBlindRow : OpenClaim := { program := "qxb6000064a", sum := "757b7a347e1ddbe75fa16035c19cd30e87fb443e08ce29c94e2ee44173895e11", func := "example.com/gapwise/gapwise/zzlaws_pkg_engine_b1.FnDefaultCollationProfileBlind", spec := "fnDefaultCollationProfileBlind", apart := false }
def FnDefaultCollationProfileBlindSaid : Prop := fnDefaultCollationProfileBlindRow.holds Try.pinned (OpenSpec.ofChange fnDefaultCollationProfileBlindSpec)

/-- ITS FALSE NEIGHBOUR: 'it returns false'. Refute it at one input. -/
def fnDefaultCollationProfileBlindWrong : ChangeSpec := { name := "fnDefaultCollationProfileBlind", fn := fun _ => fun
  | [d1, d2, d3] => { results := [.lit (.bool false)], args := [d1, d2, d3] }
  | _ => none }
def FnDefaultCollationProfileBlindWrongFalsely : Prop := fnDefaultCollationProfileBlindRow.holds Try.pinned (OpenSpec.ofChange fnDefaultCollationProfileBlindWrong)

end Rows
end Go.Proofs.Qxb6000064a
