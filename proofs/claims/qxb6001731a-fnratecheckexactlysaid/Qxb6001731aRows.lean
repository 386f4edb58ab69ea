/-
  No cell of these rows narrows 'for every input' (looked for: loops, veiled, ifaces, maps, wideKeys, modest, calm, conditions, laid).
  DERIVED. THE GIVEN ROWS OF THIS SEAT. 1 by the template 'for every input the law returns true; each argument reads behind the call as it read before'; 0 by the template 'total and deterministic' (their statements: Qxb6001731aTotals.lean).
  GIVEN WITH THE SEED: the statements are not yours to turn. If you find one false, say at which input.
  Laid BY PROGRAM, IN A SANDBOX (cutbox-rows.mjs): the forced cells as the released guide's own fill.sh prints them over the translation 2bb67bd9988f6689… (all of the seat's roots in one cut). By AI agents, Wed Nov 11 2026. No macro, syntax, notation, axiom, sorry.
-/
import Derived.Test.Qxb6001731aChecked
import GoSem.Claim
import GoSem.ClaimJoined
import GoSem.ClaimMapViews
import Derived.JoinedTies
import Derived.KernelRfl
namespace Go.Proofs.Qxb6001731a
/- THE CELL 'sum', in the pinned program and in every row, IS THE sha256 OF THE DUMP (.gsa) THAT Qxb6001731aProg.lean LOADS. Nothing in Lean hashes anything: it is a label: what it is worth is what the hold of that sum in a sandbox is worth. -/
noncomputable def Try.pinned : Pinned := { name := "qxb6001731a", sum := "2bb67bd9988f66892a37e6e1ddfd9d32fec02cd59693e2c89647794082c3c7fd", checked := Try.checked }
namespace Rows
def none {H : Type} : Left H := { results := [], args := [] }

/-- 'zzlaws_root_e1.FnRateCheckExactly': WHATEVER THE INPUT: true; the input reads as it did. -/
def fnRateCheckExactlySpec : ChangeSpec := { name := "fnRateCheckExactly", fn := fun _ => fun
  | [d1, d2] => { results := [.lit (.bool true)], args := [d1, d2] }
  | _ => none }
def fnRateCheckExactlyRow : OpenClaim := { program := "qxb6001731a", sum := "2bb67bd9988f66892a37e6e1ddfd9d32fec02cd59693e2c89647794082c3c7fd", func := "example.com/allow5/allow5/zzlaws_root_e1.FnRateCheckExactly", spec := "fnRateCheckExactly", apart := false }
def FnRateCheckExactlySaid : Prop := fnRateCheckExactlyRow.holds Try.pinned (OpenSpec.ofChange fnRateCheckExactlySpec)

/-- ITS FALSE NEIGHBOUR: 'it returns false'. Refute it at one input. -/
def fnRateCheckExactlyWrong : ChangeSpec := { name := "fnRateCheckExactly", fn := fun _ => fun
  | [d1, d2] => { results := [.lit (.bool false)], args := [d1, d2] }
  | _ => none }
def FnRateCheckExactlyWrongFalsely : Prop := fnRateCheckExactlyRow.holds Try.pinned (OpenSpec.ofChange fnRateCheckExactlyWrong)

end Rows
end Go.Proofs.Qxb6001731a
