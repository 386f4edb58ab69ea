/-
  No cell of these rows narrows 'for every input' (looked for: loops, veiled, ifaces, maps, wideKeys, modest, calm, conditions, laid).
  DERIVED. THE GIVEN ROWS OF THIS SEAT. 9 by the template 'for every input the law returns true; each argument reads behind the call as it read before'; 0 by the template 'total and deterministic' (their statements: Qxb6600171aTotals.lean).
  GIVEN WITH THE SEED: the statements are not yours to turn. If you find one false, say at which input.
  Laid BY PROGRAM, IN A SANDBOX (cutbox-rows.mjs): the forced cells as the released guide's own fill.sh prints them over the translation 74cb5d7f8e25b9c1… (all of the seat's roots in one cut). By AI agents, Wed Nov 11 2026. No macro, syntax, notation, axiom, sorry.
-/
import Derived.Test.Qxb6600171aChecked
import GoSem.Claim
import GoSem.ClaimJoined
import GoSem.ClaimMapViews
import Derived.JoinedTies
import Derived.KernelRfl
namespace Go.Proofs.Qxb6600171a
/- THE CELL 'sum', in the pinned program and in every row, IS THE sha256 OF THE DUMP (.gsa) THAT Qxb6600171aProg.lean LOADS. Nothing in Lean hashes anything: it is a label: what it is worth is what the hold of that sum in a sandbox is worth. -/
noncomputable def Try.pinned : Pinned := { name := "qxb6600171a", sum := "74cb5d7f8e25b9c1c547d120d70973649234a7dfca0af136de3fb05297c9c626", checked := Try.checked }
namespace Rows
def none {H : Type} : Left H := { results := [], args := [] }

/-- 'zzlaws_internal_ledger_b1.FnValidIDMatchesGroupParser': WHATEVER THE INPUT: true; the input reads as it did. -/
def fnValidIDMatchesGroupParserSpec : ChangeSpec := { name := "fnValidIDMatchesGroupParser", fn := fun _ => fun
  | [d] => { results := [.lit (.bool true)], args := [d] }
  | _ => none }
def fnValidIDMatchesGroupParserRow : OpenClaim := { program := "qxb6600171a", sum := "74cb5d7f8e25b9c1c547d120d70973649234a7dfca0af136de3fb05297c9c626", func := "example.com/counterpoise/counterpoise/zzlaws_internal_ledger_b1.FnValidIDMatchesGroupParser", spec := "fnValidIDMatchesGroupParser", apart := false }
def FnValidIDMatchesGroupParserSaid : Prop := fnValidIDMatchesGroupParserRow.holds Try.pinned (OpenSpec.ofChange fnValidIDMatchesGroupParserSpec)

/-- ITS FALSE NEIGHBOUR: 'it returns false'. Refute it at one input. -/
def fnValidIDMatchesGroupParserWrong : ChangeSpec := { name := "fnValidIDMatchesGroupParser", fn := fun _ => fun
  | [d] => { results := [.lit (.bool false)], args := [d] }
  | _ => none }
def FnValidIDMatchesGroupParserWrongFalsely : Prop := fnValidIDMatchesGroupParserRow.holds Try.pinned (OpenSpec.ofChange fnValidIDMatchesGroupParserWrong)

/-- 'zzlaws_internal_ledger_b1.FnValidIDIgnoresLetterCase': WHATEVER THE INPUT: true; the input reads as it did. -/
def fnValidIDIgnoresLetterCaseSpec : ChangeSpec := { name := "fnValidIDIgnoresLetterCase", fn := fun _ => fun
  | [d] => { results := [.lit (.bool true)], args := [d] }
  | _ => none }
def fnValidIDIgnoresLetterCaseRow : OpenClaim := { program := "qxb6600171a", sum := "74cb5d7f8e25b9c1c547d120d70973649234a7dfca0af136de3fb05297c9c626", func := "example.com/counterpoise/counterpoise/zzlaws_internal_ledger_b1.FnValidIDIgnoresLetterCase", spec := "fnValidIDIgnoresLetterCase", apart := false }
def FnValidIDIgnoresLetterCaseSaid : Prop := fnValidIDIgnoresLetterCaseRow.holds Try.pinned (OpenSpec.ofChange fnValidIDIgnoresLetterCaseSpec)

/-- ITS FALSE NEIGHBOUR: 'it returns false'. Refute it at one input. -/
def fnValidIDIgnoresLetterCaseWrong : ChangeSpec := { name := "fnValidIDIgnoresLetterCase", fn := fun _ => fun
  | [d] => { results := [.lit (.bool false)], args := [d] }
  | _ => none }
def FnValidIDIgnoresLetterCaseWrongFalsely : Prop := fnValidIDIgnoresLetterCaseRow.holds Try.pinned (OpenSpec.ofChange fnValidIDIgnoresLetterCaseWrong)

/-- 'zzlaws_internal_ledger_b1.FnValidIDAcceptsEveryRenderingOf128Bits': WHATEVER THE INPUT: true; the input reads as it did. -/
def fnValidIDAcceptsEveryRenderingOf128BitsSpec : ChangeSpec := { name := "fnValidIDAcceptsEveryRenderingOf128Bits", fn := fun _ => fun
  | [d1, d2, d3] => { results := [.lit (.bool true)], args := [d1, d2, d3] }
  | _ => none }
def fnValidIDAcceptsEveryRenderingOf128BitsRow : OpenClaim := { program := "qxb6600171a", sum := "74cb5d7f8e25b9c1c547d120d70973649234a7dfca0af136de3fb05297c9c626", func := "example.com/counterpoise/counterpoise/zzlaws_internal_ledger_b1.FnValidIDAcceptsEveryRenderingOf128Bits", spec := "fnValidIDAcceptsEveryRenderingOf128Bits", apart := false }
def FnValidIDAcceptsEveryRenderingOf128BitsSaid : Prop := fnValidIDAcceptsEveryRenderingOf128BitsRow.holds Try.pinned (OpenSpec.ofChange fnValidIDAcceptsEveryRenderingOf128BitsSpec)

/-- ITS FALSE NEIGHBOUR: 'it returns false'. Refute it at one input. -/
def fnValidIDAcceptsEveryRenderingOf128BitsWrong : ChangeSpec := { name := "fnValidIDAcceptsEveryRenderingOf128Bits", fn := fun _ => fun
  | [d1, d2, d3] => { results := [.lit (.bool false)], args := [d1, d2, d3] }
  | _ => none }
def FnValidIDAcceptsEveryRenderingOf128BitsWrongFalsely : Prop := fnValidIDAcceptsEveryRenderingOf128BitsRow.holds Try.pinned (OpenSpec.ofChange fnValidIDAcceptsEveryRenderingOf128BitsWrong)

/-- 'zzlaws_internal_ledger_b1.FnValidIDIsAValidName': WHATEVER THE INPUT: true; the input reads as it did. -/
def fnValidIDIsAValidNameSpec : ChangeSpec := { name := "fnValidIDIsAValidName", fn := fun _ => fun
  | [d] => { results := [.lit (.bool true)], args := [d] }
  | _ => none }
def fnValidIDIsAValidNameRow : OpenClaim := { program := "qxb6600171a", sum := "74cb5d7f8e25b9c1c547d120d70973649234a7dfca0af136de3fb05297c9c626", func := "example.com/counterpoise/counterpoise/zzlaws_internal_ledger_b1.FnValidIDIsAValidName", spec := "fnValidIDIsAValidName", apart := false }
def FnValidIDIsAValidNameSaid : Prop := fnValidIDIsAValidNameRow.holds Try.pinned (OpenSpec.ofChange fnValidIDIsAValidNameSpec)

/-- ITS FALSE NEIGHBOUR: 'it returns false'. Refute it at one input. -/
def fnValidIDIsAValidNameWrong : ChangeSpec := { name := "fnValidIDIsAValidName", fn := fun _ => fun
  | [d] => { results := [.lit (.bool false)], args := [d] }
  | _ => none }
def FnValidIDIsAValidNameWrongFalsely : Prop := fnValidIDIsAValidNameRow.holds Try.pinned (OpenSpec.ofChange fnValidIDIsAValidNameWrong)

/-- 'zzlaws_internal_ledger_b1.FnValidNameMatchesAlphabetModel': WHATEVER THE INPUT: true; the input reads as it did. -/
def fnValidNameMatchesAlphabetModelSpec : ChangeSpec := { name := "fnValidNameMatchesAlphabetModel", fn := fun _ => fun
  | [d] => { results := [.lit (.bool true)], args := [d] }
  | _ => none }
def fnValidNameMatchesAlphabetModelRow : OpenClaim := { program := "qxb6600171a", sum := "74cb5d7f8e25b9c1c547d120d70973649234a7dfca0af136de3fb05297c9c626", func := "example.com/counterpoise/counterpoise/zzlaws_internal_ledger_b1.FnValidNameMatchesAlphabetModel", spec := "fnValidNameMatchesAlphabetModel", apart := false }
def FnValidNameMatchesAlphabetModelSaid : Prop := fnValidNameMatchesAlphabetModelRow.holds Try.pinned (OpenSpec.ofChange fnValidNameMatchesAlphabetModelSpec)

/-- ITS FALSE NEIGHBOUR: 'it returns false'. Refute it at one input. -/
def fnValidNameMatchesAlphabetModelWrong : ChangeSpec := { name := "fnValidNameMatchesAlphabetModel", fn := fun _ => fun
  | [d] => { results := [.lit (.bool false)], args := [d] }
  | _ => none }
def FnValidNameMatchesAlphabetModelWrongFalsely : Prop := fnValidNameMatchesAlphabetModelRow.holds Try.pinned (OpenSpec.ofChange fnValidNameMatchesAlphabetModelWrong)

/-- 'zzlaws_internal_ledger_b1.FnValidNameJoinIsANameIffShortEnough': WHATEVER THE INPUT: true; the input reads as it did. -/
def fnValidNameJoinIsANameIffShortEnoughSpec : ChangeSpec := { name := "fnValidNameJoinIsANameIffShortEnough", fn := fun _ => fun
  | [d1, d2] => { results := [.lit (.bool true)], args := [d1, d2] }
  | _ => none }
def fnValidNameJoinIsANameIffShortEnoughRow : OpenClaim := { program := "qxb6600171a", sum := "74cb5d7f8e25b9c1c547d120d70973649234a7dfca0af136de3fb05297c9c626", func := "example.com/counterpoise/counterpoise/zzlaws_internal_ledger_b1.FnValidNameJoinIsANameIffShortEnough", spec := "fnValidNameJoinIsANameIffShortEnough", apart := false }
def FnValidNameJoinIsANameIffShortEnoughSaid : Prop := fnValidNameJoinIsANameIffShortEnoughRow.holds Try.pinned (OpenSpec.ofChange fnValidNameJoinIsANameIffShortEnoughSpec)

/-- ITS FALSE NEIGHBOUR: 'it returns false'. Refute it at one input. -/
def fnValidNameJoinIsANameIffShortEnoughWrong : ChangeSpec := { name := "fnValidNameJoinIsANameIffShortEnough", fn := fun _ => fun
  | [d1, d2] => { results := [.lit (.bool false)], args := [d1, d2] }
  | _ => none }
def FnValidNameJoinIsANameIffShortEnoughWrongFalsely : Prop := fnValidNameJoinIsANameIffShortEnoughRow.holds Try.pinned (OpenSpec.ofChange fnValidNameJoinIsANameIffShortEnoughWrong)

/-- 'zzlaws_internal_ledger_b1.FnValidNameSubstringsAreNamesUnlessDots': WHATEVER THE INPUT: true; the input reads as it did. -/
def fnValidNameSubstringsAreNamesUnlessDotsSpec : ChangeSpec := { name := "fnValidNameSubstringsAreNamesUnlessDots", fn := fun _ => fun
  | [d] => { results := [.lit (.bool true)], args := [d] }
  | _ => none }
def fnValidNameSubstringsAreNamesUnlessDotsRow : OpenClaim := { program := "qxb6600171a", sum := "74cb5d7f8e25b9c1c547d120d70973649234a7dfca0af136de3fb05297c9c626", func := "example.com/counterpoise/counterpoise/zzlaws_internal_ledger_b1.FnValidNameSubstringsAreNamesUnlessDots", spec := "fnValidNameSubstringsAreNamesUnlessDots", apart := false }
def FnValidNameSubstringsAreNamesUnlessDotsSaid : Prop := fnValidNameSubstringsAreNamesUnlessDotsRow.holds Try.pinned (OpenSpec.ofChange fnValidNameSubstringsAreNamesUnlessDotsSpec)

/-- ITS FALSE NEIGHBOUR: 'it returns false'. Refute it at one input. -/
def fnValidNameSubstringsAreNamesUnlessDotsWrong : ChangeSpec := { name := "fnValidNameSubstringsAreNamesUnlessDots", fn := fun _ => fun
  | [d] => { results := [.lit (.bool false)], args := [d] }
  | _ => none }
def FnValidNameSubstringsAreNamesUnlessDotsWrongFalsely : Prop := fnValidNameSubstringsAreNamesUnlessDotsRow.holds Try.pinned (OpenSpec.ofChange fnValidNameSubstringsAreNamesUnlessDotsWrong)

/-- 'zzlaws_internal_ledger_b1.FnValidCurrencyIsANameButNotInLowerCase': WHATEVER THE INPUT: true; the input reads as it did. -/
def fnValidCurrencyIsANameButNotInLowerCaseSpec : ChangeSpec := { name := "fnValidCurrencyIsANameButNotInLowerCase", fn := fun _ => fun
  | [d] => { results := [.lit (.bool true)], args := [d] }
  | _ => none }
def fnValidCurrencyIsANameButNotInLowerCaseRow : OpenClaim := { program := "qxb6600171a", sum := "74cb5d7f8e25b9c1c547d120d70973649234a7dfca0af136de3fb05297c9c626", func := "example.com/counterpoise/counterpoise/zzlaws_internal_ledger_b1.FnValidCurrencyIsANameButNotInLowerCase", spec := "fnValidCurrencyIsANameButNotInLowerCase", apart := false }
def FnValidCurrencyIsANameButNotInLowerCaseSaid : Prop := fnValidCurrencyIsANameButNotInLowerCaseRow.holds Try.pinned (OpenSpec.ofChange fnValidCurrencyIsANameButNotInLowerCaseSpec)

/-- ITS FALSE NEIGHBOUR: 'it returns false'. Refute it at one input. -/
def fnValidCurrencyIsANameButNotInLowerCaseWrong : ChangeSpec := { name := "fnValidCurrencyIsANameButNotInLowerCase", fn := fun _ => fun
  | [d] => { results := [.lit (.bool false)], args := [d] }
  | _ => none }
def FnValidCurrencyIsANameButNotInLowerCaseWrongFalsely : Prop := fnValidCurrencyIsANameButNotInLowerCaseRow.holds Try.pinned (OpenSpec.ofChange fnValidCurrencyIsANameButNotInLowerCaseWrong)

/-- 'zzlaws_internal_ledger_b1.FnValidCurrencyPrefixClosed': WHATEVER THE INPUT: true; the input reads as it did. -/
def fnValidCurrencyPrefixClosedSpec : ChangeSpec := { name := "fnValidCurrencyPrefixClosed", fn := fun _ => fun
  | [d] => { results := [.lit (.bool true)], args := [d] }
  | _ => none }
def fnValidCurrencyPrefixClosedRow : OpenClaim := { program := "qxb6600171a", sum := "74cb5d7f8e25b9c1c547d120d70973649234a7dfca0af136de3fb05297c9c626", func := "example.com/counterpoise/counterpoise/zzlaws_internal_ledger_b1.FnValidCurrencyPrefixClosed", spec := "fnValidCurrencyPrefixClosed", apart := false }
def FnValidCurrencyPrefixClosedSaid : Prop := fnValidCurrencyPrefixClosedRow.holds Try.pinned (OpenSpec.ofChange fnValidCurrencyPrefixClosedSpec)

/-- ITS FALSE NEIGHBOUR: 'it returns false'. Refute it at one input. -/
def fnValidCurrencyPrefixClosedWrong : ChangeSpec := { name := "fnValidCurrencyPrefixClosed", fn := fun _ => fun
  | [d] => { results := [.lit (.bool false)], args := [d] }
  | _ => none }
def FnValidCurrencyPrefixClosedWrongFalsely : Prop := fnValidCurrencyPrefixClosedRow.holds Try.pinned (OpenSpec.ofChange fnValidCurrencyPrefixClosedWrong)

end Rows
end Go.Proofs.Qxb6600171a
