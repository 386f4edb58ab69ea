/-
  No cell of these rows narrows 'for every input' (looked for: loops, veiled, ifaces, maps, wideKeys, modest, calm, conditions, laid).
  DERIVED. THE GIVEN ROWS OF THIS SEAT. 8 by the template 'for every input the law returns true; each argument reads behind the call as it read before'; 0 by the template 'total and deterministic' (their statements: Qxb6600180aTotals.lean).
  GIVEN WITH THE SEED: the statements are not yours to turn. If you find one false, say at which input.
  Laid BY PROGRAM, IN A SANDBOX (cutbox-rows.mjs): the forced cells as the released guide's own fill.sh prints them over the translation 44ab6cd8c990383f… (all of the seat's roots in one cut). By AI agents, Wed Nov 11 2026. No macro, syntax, notation, axiom, sorry.
-/
import Derived.Test.Qxb6600180aChecked
import GoSem.Claim
import GoSem.ClaimJoined
import GoSem.ClaimMapViews
import Derived.JoinedTies
import Derived.KernelRfl
namespace Go.Proofs.Qxb6600180a
/- THE CELL 'sum', in the pinned program and in every row, IS THE sha256 OF THE DUMP (.gsa) THAT Qxb6600180aProg.lean LOADS. Nothing in Lean hashes anything: it is a label: what it is worth is what the hold of that sum in a sandbox is worth. -/
noncomputable def Try.pinned : Pinned := { name := "qxb6600180a", sum := "44ab6cd8c990383f79e5f005659a68fbd113b648b6d64d4ffb5280b18601fa6d", checked := Try.checked }
namespace Rows
def none {H : Type} : Left H := { results := [], args := [] }

/-- 'zzlaws_pkg_transaction_b1.FnStatusOutcomeRange': WHATEVER THE INPUT: true; the input reads as it did. -/
def fnStatusOutcomeRangeSpec : ChangeSpec := { name := "fnStatusOutcomeRange", fn := fun _ => fun
  | [d] => { results := [.lit (.bool true)], args := [d] }
  | _ => none }
def fnStatusOutcomeRangeRow : OpenClaim := { program := "qxb6600180a", sum := "44ab6cd8c990383f79e5f005659a68fbd113b648b6d64d4ffb5280b18601fa6d", func := "example.com/concordat/concordat/zzlaws_pkg_transaction_b1.FnStatusOutcomeRange", spec := "fnStatusOutcomeRange", apart := false }
def FnStatusOutcomeRangeSaid : Prop := fnStatusOutcomeRangeRow.holds Try.pinned (OpenSpec.ofChange fnStatusOutcomeRangeSpec)

/-- ITS FALSE NEIGHBOUR: 'it returns false'. Refute it at one input. -/
def fnStatusOutcomeRangeWrong : ChangeSpec := { name := "fnStatusOutcomeRange", fn := fun _ => fun
  | [d] => { results := [.lit (.bool false)], args := [d] }
  | _ => none }
def FnStatusOutcomeRangeWrongFalsely : Prop := fnStatusOutcomeRangeRow.holds Try.pinned (OpenSpec.ofChange fnStatusOutcomeRangeWrong)

/-- 'zzlaws_pkg_transaction_b1.FnStatusOutcomeDecisionSticks': WHATEVER THE INPUT: true; the input reads as it did. -/
def fnStatusOutcomeDecisionSticksSpec : ChangeSpec := { name := "fnStatusOutcomeDecisionSticks", fn := fun _ => fun
  | [d1, d2, d3] => { results := [.lit (.bool true)], args := [d1, d2, d3] }
  | _ => none }
def fnStatusOutcomeDecisionSticksRow : OpenClaim := { program := "qxb6600180a", sum := "44ab6cd8c990383f79e5f005659a68fbd113b648b6d64d4ffb5280b18601fa6d", func := "example.com/concordat/concordat/zzlaws_pkg_transaction_b1.FnStatusOutcomeDecisionSticks", spec := "fnStatusOutcomeDecisionSticks", apart := false }
def FnStatusOutcomeDecisionSticksSaid : Prop := fnStatusOutcomeDecisionSticksRow.holds Try.pinned (OpenSpec.ofChange fnStatusOutcomeDecisionSticksSpec)

/-- ITS FALSE NEIGHBOUR: 'it returns false'. Refute it at one input. -/
def fnStatusOutcomeDecisionSticksWrong : ChangeSpec := { name := "fnStatusOutcomeDecisionSticks", fn := fun _ => fun
  | [d1, d2, d3] => { results := [.lit (.bool false)], args := [d1, d2, d3] }
  | _ => none }
def FnStatusOutcomeDecisionSticksWrongFalsely : Prop := fnStatusOutcomeDecisionSticksRow.holds Try.pinned (OpenSpec.ofChange fnStatusOutcomeDecisionSticksWrong)

/-- 'zzlaws_pkg_transaction_b1.FnWithHeuristicsCountModel': WHATEVER THE INPUT: true; the input reads as it did. -/
def fnWithHeuristicsCountModelSpec : ChangeSpec := { name := "fnWithHeuristicsCountModel", fn := fun _ => fun
  | [d1, d2] => { results := [.lit (.bool true)], args := [d1, d2] }
  | _ => none }
def fnWithHeuristicsCountModelRow : OpenClaim := { program := "qxb6600180a", sum := "44ab6cd8c990383f79e5f005659a68fbd113b648b6d64d4ffb5280b18601fa6d", func := "example.com/concordat/concordat/zzlaws_pkg_transaction_b1.FnWithHeuristicsCountModel", spec := "fnWithHeuristicsCountModel", apart := false }
def FnWithHeuristicsCountModelSaid : Prop := fnWithHeuristicsCountModelRow.holds Try.pinned (OpenSpec.ofChange fnWithHeuristicsCountModelSpec)

/-- ITS FALSE NEIGHBOUR: 'it returns false'. Refute it at one input. -/
def fnWithHeuristicsCountModelWrong : ChangeSpec := { name := "fnWithHeuristicsCountModel", fn := fun _ => fun
  | [d1, d2] => { results := [.lit (.bool false)], args := [d1, d2] }
  | _ => none }
def FnWithHeuristicsCountModelWrongFalsely : Prop := fnWithHeuristicsCountModelRow.holds Try.pinned (OpenSpec.ofChange fnWithHeuristicsCountModelWrong)

/-- 'zzlaws_pkg_transaction_b1.FnWithHeuristicsSplit': WHATEVER THE INPUT: true; the input reads as it did. -/
def fnWithHeuristicsSplitSpec : ChangeSpec := { name := "fnWithHeuristicsSplit", fn := fun _ => fun
  | [d1, d2, d3] => { results := [.lit (.bool true)], args := [d1, d2, d3] }
  | _ => none }
def fnWithHeuristicsSplitRow : OpenClaim := { program := "qxb6600180a", sum := "44ab6cd8c990383f79e5f005659a68fbd113b648b6d64d4ffb5280b18601fa6d", func := "example.com/concordat/concordat/zzlaws_pkg_transaction_b1.FnWithHeuristicsSplit", spec := "fnWithHeuristicsSplit", apart := false }
def FnWithHeuristicsSplitSaid : Prop := fnWithHeuristicsSplitRow.holds Try.pinned (OpenSpec.ofChange fnWithHeuristicsSplitSpec)

/-- ITS FALSE NEIGHBOUR: 'it returns false'. Refute it at one input. -/
def fnWithHeuristicsSplitWrong : ChangeSpec := { name := "fnWithHeuristicsSplit", fn := fun _ => fun
  | [d1, d2, d3] => { results := [.lit (.bool false)], args := [d1, d2, d3] }
  | _ => none }
def FnWithHeuristicsSplitWrongFalsely : Prop := fnWithHeuristicsSplitRow.holds Try.pinned (OpenSpec.ofChange fnWithHeuristicsSplitWrong)

/-- 'zzlaws_pkg_transaction_b1.FnWithHeuristicsOrderFree': WHATEVER THE INPUT: true; the input reads as it did. -/
def fnWithHeuristicsOrderFreeSpec : ChangeSpec := { name := "fnWithHeuristicsOrderFree", fn := fun _ => fun
  | [d1, d2] => { results := [.lit (.bool true)], args := [d1, d2] }
  | _ => none }
def fnWithHeuristicsOrderFreeRow : OpenClaim := { program := "qxb6600180a", sum := "44ab6cd8c990383f79e5f005659a68fbd113b648b6d64d4ffb5280b18601fa6d", func := "example.com/concordat/concordat/zzlaws_pkg_transaction_b1.FnWithHeuristicsOrderFree", spec := "fnWithHeuristicsOrderFree", apart := false }
def FnWithHeuristicsOrderFreeSaid : Prop := fnWithHeuristicsOrderFreeRow.holds Try.pinned (OpenSpec.ofChange fnWithHeuristicsOrderFreeSpec)

/-- ITS FALSE NEIGHBOUR: 'it returns false'. Refute it at one input. -/
def fnWithHeuristicsOrderFreeWrong : ChangeSpec := { name := "fnWithHeuristicsOrderFree", fn := fun _ => fun
  | [d1, d2] => { results := [.lit (.bool false)], args := [d1, d2] }
  | _ => none }
def FnWithHeuristicsOrderFreeWrongFalsely : Prop := fnWithHeuristicsOrderFreeRow.holds Try.pinned (OpenSpec.ofChange fnWithHeuristicsOrderFreeWrong)

/-- 'zzlaws_pkg_transaction_b1.FnSagaStatusKindSet': WHATEVER THE INPUT: true; the input reads as it did. -/
def fnSagaStatusKindSetSpec : ChangeSpec := { name := "fnSagaStatusKindSet", fn := fun _ => fun
  | [d] => { results := [.lit (.bool true)], args := [d] }
  | _ => none }
def fnSagaStatusKindSetRow : OpenClaim := { program := "qxb6600180a", sum := "44ab6cd8c990383f79e5f005659a68fbd113b648b6d64d4ffb5280b18601fa6d", func := "example.com/concordat/concordat/zzlaws_pkg_transaction_b1.FnSagaStatusKindSet", spec := "fnSagaStatusKindSet", apart := false }
def FnSagaStatusKindSetSaid : Prop := fnSagaStatusKindSetRow.holds Try.pinned (OpenSpec.ofChange fnSagaStatusKindSetSpec)

/-- ITS FALSE NEIGHBOUR: 'it returns false'. Refute it at one input. -/
def fnSagaStatusKindSetWrong : ChangeSpec := { name := "fnSagaStatusKindSet", fn := fun _ => fun
  | [d] => { results := [.lit (.bool false)], args := [d] }
  | _ => none }
def FnSagaStatusKindSetWrongFalsely : Prop := fnSagaStatusKindSetRow.holds Try.pinned (OpenSpec.ofChange fnSagaStatusKindSetWrong)

/-- 'zzlaws_pkg_transaction_b1.FnSagaStatusDoubled': WHATEVER THE INPUT: true; the input reads as it did. -/
def fnSagaStatusDoubledSpec : ChangeSpec := { name := "fnSagaStatusDoubled", fn := fun _ => fun
  | [d] => { results := [.lit (.bool true)], args := [d] }
  | _ => none }
def fnSagaStatusDoubledRow : OpenClaim := { program := "qxb6600180a", sum := "44ab6cd8c990383f79e5f005659a68fbd113b648b6d64d4ffb5280b18601fa6d", func := "example.com/concordat/concordat/zzlaws_pkg_transaction_b1.FnSagaStatusDoubled", spec := "fnSagaStatusDoubled", apart := false }
def FnSagaStatusDoubledSaid : Prop := fnSagaStatusDoubledRow.holds Try.pinned (OpenSpec.ofChange fnSagaStatusDoubledSpec)

/-- ITS FALSE NEIGHBOUR: 'it returns false'. Refute it at one input. -/
def fnSagaStatusDoubledWrong : ChangeSpec := { name := "fnSagaStatusDoubled", fn := fun _ => fun
  | [d] => { results := [.lit (.bool false)], args := [d] }
  | _ => none }
def FnSagaStatusDoubledWrongFalsely : Prop := fnSagaStatusDoubledRow.holds Try.pinned (OpenSpec.ofChange fnSagaStatusDoubledWrong)

/-- 'zzlaws_pkg_transaction_b1.FnSagaFailureAbsorbs': WHATEVER THE INPUT: true; the input reads as it did. -/
def fnSagaFailureAbsorbsSpec : ChangeSpec := { name := "fnSagaFailureAbsorbs", fn := fun _ => fun
  | [d1, d2] => { results := [.lit (.bool true)], args := [d1, d2] }
  | _ => none }
def fnSagaFailureAbsorbsRow : OpenClaim := { program := "qxb6600180a", sum := "44ab6cd8c990383f79e5f005659a68fbd113b648b6d64d4ffb5280b18601fa6d", func := "example.com/concordat/concordat/zzlaws_pkg_transaction_b1.FnSagaFailureAbsorbs", spec := "fnSagaFailureAbsorbs", apart := false }
def FnSagaFailureAbsorbsSaid : Prop := fnSagaFailureAbsorbsRow.holds Try.pinned (OpenSpec.ofChange fnSagaFailureAbsorbsSpec)

/-- ITS FALSE NEIGHBOUR: 'it returns false'. Refute it at one input. -/
def fnSagaFailureAbsorbsWrong : ChangeSpec := { name := "fnSagaFailureAbsorbs", fn := fun _ => fun
  | [d1, d2] => { results := [.lit (.bool false)], args := [d1, d2] }
  | _ => none }
def FnSagaFailureAbsorbsWrongFalsely : Prop := fnSagaFailureAbsorbsRow.holds Try.pinned (OpenSpec.ofChange fnSagaFailureAbsorbsWrong)

end Rows
end Go.Proofs.Qxb6600180a
