/-
  No cell of these rows narrows 'for every input' (looked for: loops, veiled, ifaces, maps, wideKeys, modest, calm, conditions, laid).
  DERIVED. THE GIVEN ROWS OF THIS SEAT. 6 by the template 'for every input the law returns true; each argument reads behind the call as it read before'; 0 by the template 'total and deterministic' (their statements: Qxb6001364aTotals.lean).
  GIVEN WITH THE SEED: the statements are not yours to turn. If you find one false, say at which input.
  Laid BY PROGRAM, IN A SANDBOX (cutbox-rows.mjs): the forced cells as the released guide's own fill.sh prints them over the translation 3448d49b7b147075… (all of the seat's roots in one cut). By AI agents, Wed Nov 11 2026. No macro, syntax, notation, axiom, sorry.
-/
import Derived.Test.Qxb6001364aChecked
import GoSem.Claim
import GoSem.ClaimJoined
import GoSem.ClaimMapViews
import Derived.JoinedTies
import Derived.KernelRfl
namespace Go.Proofs.Qxb6001364a
/- THE CELL 'sum', in the pinned program and in every row, IS THE sha256 OF THE DUMP (.gsa) THAT Qxb6001364aProg.lean LOADS. Nothing in Lean hashes anything: it is a label: what it is worth is what the hold of that sum in a sandbox is worth. -/
noncomputable def Try.pinned : Pinned := { name := "qxb6001364a", sum := "3448d49b7b147075d5ac5fbebe2f4b418d81ba43004ae6a84dafc620e0761d89", checked := Try.checked }
namespace Rows
def none {H : Type} : Left H := { results := [], args := [] }

/-- 'zzlaws_internal_classify_b1.FnNewViewProblemKeepsEveryViewSerialOrder': WHATEVER THE INPUT: true; the input reads as it did. -/
def fnNewViewProblemKeepsEveryViewSerialOrderSpec : ChangeSpec := { name := "fnNewViewProblemKeepsEveryViewSerialOrder", fn := fun _ => fun
  | [d1, d2, d3, d4, d5] => { results := [.lit (.bool true)], args := [d1, d2, d3, d4, d5] }
  | _ => none }
def fnNewViewProblemKeepsEveryViewSerialOrderRow : OpenClaim := { program := "qxb6001364a", sum := "3448d49b7b147075d5ac5fbebe2f4b418d81ba43004ae6a84dafc620e0761d89", func := "example.com/interleave/interleave/zzlaws_internal_classify_b1.FnNewViewProblemKeepsEveryViewSerialOrder", spec := "fnNewViewProblemKeepsEveryViewSerialOrder", unfollowed := true, recurses := true, plainKeys := false, apart := false }
def FnNewViewProblemKeepsEveryViewSerialOrderSaid : Prop := fnNewViewProblemKeepsEveryViewSerialOrderRow.holds Try.pinned (OpenSpec.ofChange fnNewViewProblemKeepsEveryViewSerialOrderSpec)

/-- ITS FALSE NEIGHBOUR: 'it returns false'. Refute it at one input. -/
def fnNewViewProblemKeepsEveryViewSerialOrderWrong : ChangeSpec := { name := "fnNewViewProblemKeepsEveryViewSerialOrder", fn := fun _ => fun
  | [d1, d2, d3, d4, d5] => { results := [.lit (.bool false)], args := [d1, d2, d3, d4, d5] }
  | _ => none }
def FnNewViewProblemKeepsEveryViewSerialOrderWrongFalsely : Prop := fnNewViewProblemKeepsEveryViewSerialOrderRow.holds Try.pinned (OpenSpec.ofChange fnNewViewProblemKeepsEveryViewSerialOrderWrong)

/-- 'zzlaws_internal_classify_b1.FnNewViewProblemRefusesOverwrittenRead': WHATEVER THE INPUT: true; the input reads as it did. -/
def fnNewViewProblemRefusesOverwrittenReadSpec : ChangeSpec := { name := "fnNewViewProblemRefusesOverwrittenRead", fn := fun _ => fun
  | [d1, d2, d3, d4] => { results := [.lit (.bool true)], args := [d1, d2, d3, d4] }
  | _ => none }
def fnNewViewProblemRefusesOverwrittenReadRow : OpenClaim := { program := "qxb6001364a", sum := "3448d49b7b147075d5ac5fbebe2f4b418d81ba43004ae6a84dafc620e0761d89", func := "example.com/interleave/interleave/zzlaws_internal_classify_b1.FnNewViewProblemRefusesOverwrittenRead", spec := "fnNewViewProblemRefusesOverwrittenRead", unfollowed := true, recurses := true, plainKeys := false, apart := false }
def FnNewViewProblemRefusesOverwrittenReadSaid : Prop := fnNewViewProblemRefusesOverwrittenReadRow.holds Try.pinned (OpenSpec.ofChange fnNewViewProblemRefusesOverwrittenReadSpec)

/-- ITS FALSE NEIGHBOUR: 'it returns false'. Refute it at one input. -/
def fnNewViewProblemRefusesOverwrittenReadWrong : ChangeSpec := { name := "fnNewViewProblemRefusesOverwrittenRead", fn := fun _ => fun
  | [d1, d2, d3, d4] => { results := [.lit (.bool false)], args := [d1, d2, d3, d4] }
  | _ => none }
def FnNewViewProblemRefusesOverwrittenReadWrongFalsely : Prop := fnNewViewProblemRefusesOverwrittenReadRow.holds Try.pinned (OpenSpec.ofChange fnNewViewProblemRefusesOverwrittenReadWrong)

/-- 'zzlaws_internal_classify_b1.FnForceOrdersAgainOnlyAddsFreshEdges': WHATEVER THE INPUT: true; the input reads as it did. -/
def fnForceOrdersAgainOnlyAddsFreshEdgesSpec : ChangeSpec := { name := "fnForceOrdersAgainOnlyAddsFreshEdges", fn := fun _ => fun
  | [d1, d2, d3, d4] => { results := [.lit (.bool true)], args := [d1, d2, d3, d4] }
  | _ => none }
def fnForceOrdersAgainOnlyAddsFreshEdgesRow : OpenClaim := { program := "qxb6001364a", sum := "3448d49b7b147075d5ac5fbebe2f4b418d81ba43004ae6a84dafc620e0761d89", func := "example.com/interleave/interleave/zzlaws_internal_classify_b1.FnForceOrdersAgainOnlyAddsFreshEdges", spec := "fnForceOrdersAgainOnlyAddsFreshEdges", unfollowed := true, recurses := true, plainKeys := false, apart := false }
def FnForceOrdersAgainOnlyAddsFreshEdgesSaid : Prop := fnForceOrdersAgainOnlyAddsFreshEdgesRow.holds Try.pinned (OpenSpec.ofChange fnForceOrdersAgainOnlyAddsFreshEdgesSpec)

/-- ITS FALSE NEIGHBOUR: 'it returns false'. Refute it at one input. -/
def fnForceOrdersAgainOnlyAddsFreshEdgesWrong : ChangeSpec := { name := "fnForceOrdersAgainOnlyAddsFreshEdges", fn := fun _ => fun
  | [d1, d2, d3, d4] => { results := [.lit (.bool false)], args := [d1, d2, d3, d4] }
  | _ => none }
def FnForceOrdersAgainOnlyAddsFreshEdgesWrongFalsely : Prop := fnForceOrdersAgainOnlyAddsFreshEdgesRow.holds Try.pinned (OpenSpec.ofChange fnForceOrdersAgainOnlyAddsFreshEdgesWrong)

/-- 'zzlaws_internal_classify_b1.FnForceOrdersAgainKeepsEveryViewSerialOrder': WHATEVER THE INPUT: true; the input reads as it did. -/
def fnForceOrdersAgainKeepsEveryViewSerialOrderSpec : ChangeSpec := { name := "fnForceOrdersAgainKeepsEveryViewSerialOrder", fn := fun _ => fun
  | [d1, d2, d3, d4, d5] => { results := [.lit (.bool true)], args := [d1, d2, d3, d4, d5] }
  | _ => none }
def fnForceOrdersAgainKeepsEveryViewSerialOrderRow : OpenClaim := { program := "qxb6001364a", sum := "3448d49b7b147075d5ac5fbebe2f4b418d81ba43004ae6a84dafc620e0761d89", func := "example.com/interleave/interleave/zzlaws_internal_classify_b1.FnForceOrdersAgainKeepsEveryViewSerialOrder", spec := "fnForceOrdersAgainKeepsEveryViewSerialOrder", unfollowed := true, recurses := true, plainKeys := false, apart := false }
def FnForceOrdersAgainKeepsEveryViewSerialOrderSaid : Prop := fnForceOrdersAgainKeepsEveryViewSerialOrderRow.holds Try.pinned (OpenSpec.ofChange fnForceOrdersAgainKeepsEveryViewSerialOrderSpec)

/-- ITS FALSE NEIGHBOUR: 'it returns false'. Refute it at one input. -/
def fnForceOrdersAgainKeepsEveryViewSerialOrderWrong : ChangeSpec := { name := "fnForceOrdersAgainKeepsEveryViewSerialOrder", fn := fun _ => fun
  | [d1, d2, d3, d4, d5] => { results := [.lit (.bool false)], args := [d1, d2, d3, d4, d5] }
  | _ => none }
def FnForceOrdersAgainKeepsEveryViewSerialOrderWrongFalsely : Prop := fnForceOrdersAgainKeepsEveryViewSerialOrderRow.holds Try.pinned (OpenSpec.ofChange fnForceOrdersAgainKeepsEveryViewSerialOrderWrong)

/-- 'zzlaws_internal_classify_b1.FnStuckNeverOnViewSerialPrefix': WHATEVER THE INPUT: true; the input reads as it did. -/
def fnStuckNeverOnViewSerialPrefixSpec : ChangeSpec := { name := "fnStuckNeverOnViewSerialPrefix", fn := fun _ => fun
  | [d1, d2, d3, d4, d5, d6] => { results := [.lit (.bool true)], args := [d1, d2, d3, d4, d5, d6] }
  | _ => none }
def fnStuckNeverOnViewSerialPrefixRow : OpenClaim := { program := "qxb6001364a", sum := "3448d49b7b147075d5ac5fbebe2f4b418d81ba43004ae6a84dafc620e0761d89", func := "example.com/interleave/interleave/zzlaws_internal_classify_b1.FnStuckNeverOnViewSerialPrefix", spec := "fnStuckNeverOnViewSerialPrefix", unfollowed := true, recurses := true, plainKeys := false, apart := false }
def FnStuckNeverOnViewSerialPrefixSaid : Prop := fnStuckNeverOnViewSerialPrefixRow.holds Try.pinned (OpenSpec.ofChange fnStuckNeverOnViewSerialPrefixSpec)

/-- ITS FALSE NEIGHBOUR: 'it returns false'. Refute it at one input. -/
def fnStuckNeverOnViewSerialPrefixWrong : ChangeSpec := { name := "fnStuckNeverOnViewSerialPrefix", fn := fun _ => fun
  | [d1, d2, d3, d4, d5, d6] => { results := [.lit (.bool false)], args := [d1, d2, d3, d4, d5, d6] }
  | _ => none }
def FnStuckNeverOnViewSerialPrefixWrongFalsely : Prop := fnStuckNeverOnViewSerialPrefixRow.holds Try.pinned (OpenSpec.ofChange fnStuckNeverOnViewSerialPrefixWrong)

/-- 'zzlaws_internal_classify_b1.FnStuckAnswersAlikeAgainAndAfresh': WHATEVER THE INPUT: true; the input reads as it did. -/
def fnStuckAnswersAlikeAgainAndAfreshSpec : ChangeSpec := { name := "fnStuckAnswersAlikeAgainAndAfresh", fn := fun _ => fun
  | [d1, d2, d3, d4, d5] => { results := [.lit (.bool true)], args := [d1, d2, d3, d4, d5] }
  | _ => none }
def fnStuckAnswersAlikeAgainAndAfreshRow : OpenClaim := { program := "qxb6001364a", sum := "3448d49b7b147075d5ac5fbebe2f4b418d81ba43004ae6a84dafc620e0761d89", func := "example.com/interleave/interleave/zzlaws_internal_classify_b1.FnStuckAnswersAlikeAgainAndAfresh", spec := "fnStuckAnswersAlikeAgainAndAfresh", unfollowed := true, recurses := true, plainKeys := false, apart := false }
def FnStuckAnswersAlikeAgainAndAfreshSaid : Prop := fnStuckAnswersAlikeAgainAndAfreshRow.holds Try.pinned (OpenSpec.ofChange fnStuckAnswersAlikeAgainAndAfreshSpec)

/-- ITS FALSE NEIGHBOUR: 'it returns false'. Refute it at one input. -/
def fnStuckAnswersAlikeAgainAndAfreshWrong : ChangeSpec := { name := "fnStuckAnswersAlikeAgainAndAfresh", fn := fun _ => fun
  | [d1, d2, d3, d4, d5] => { results := [.lit (.bool false)], args := [d1, d2, d3, d4, d5] }
  | _ => none }
def FnStuckAnswersAlikeAgainAndAfreshWrongFalsely : Prop := fnStuckAnswersAlikeAgainAndAfreshRow.holds Try.pinned (OpenSpec.ofChange fnStuckAnswersAlikeAgainAndAfreshWrong)

end Rows
end Go.Proofs.Qxb6001364a
