/-
  DERIVED. GIVEN WITH THE SEED: THE CARDS: each row of Qxb6001731aFmtRows.lean that lists a variable, with what it lists TIED to the program's text (the seventh form; the later family's looks); each row that meets fmt, with fmt's text TOLD by the authors' own Lean function (tested against real Go, not proved from fmt's source: count such statements apart). THE CARD IS WHAT COUNTS. Prove the row's statement (the work); the ties are given (Qxb6001731aFmtTie.lean); close each card by the builder's one call (the guide's Derived/Test/ToyasCard.lean, 'card_holds'). Laid BY PROGRAM, IN A SANDBOX (cutbox-door.mjs). By AI agents, Wed Nov 11 2026. No macro, syntax, notation, axiom, sorry.
-/
import Derived.Test.Qxb6001731aFmtRows
import GoSem.ClaimSeven
namespace Go.Proofs.Qxb6001731aFmt
namespace Rows

/-- THE TOLD AND TIED CARD OF 'zzlaws_root_e1.FnMarshalTextExactAndReadsBack'. -/
def fnMarshalTextExactAndReadsBackCard : Claim7 := { stood := { row := fnMarshalTextExactAndReadsBackRow, standIns := [], harness := (true, "63ee4409f152f5624adf28cf22a43561cc1d6684e74a6d834021438b524cc161"), looks := false }, told := true, laidByText := true, laidKinds := [.data, .data, .data], laidTests := true, laidLooks := .later, goes := false }
def FnMarshalTextExactAndReadsBackToldSaid : Prop := Claim7.holds Tryf.pinned (.plain (OpenSpec.ofChange fnMarshalTextExactAndReadsBackSpec)) fnMarshalTextExactAndReadsBackCard
/-- ITS FALSE NEIGHBOUR. Refute it at one input. -/
def FnMarshalTextExactAndReadsBackToldWrongFalsely : Prop := Claim7.holds Tryf.pinned (.plain (OpenSpec.ofChange fnMarshalTextExactAndReadsBackWrong)) fnMarshalTextExactAndReadsBackCard

/-- THE TOLD CARD OF 'zzlaws_root_e1.FnRollingCheckTiles'. -/
def fnRollingCheckTilesCard : Claim7 := { stood := { row := fnRollingCheckTilesRow, standIns := [], harness := (true, "63ee4409f152f5624adf28cf22a43561cc1d6684e74a6d834021438b524cc161"), looks := false }, told := true, goes := false }
def FnRollingCheckTilesToldSaid : Prop := Claim7.holds Tryf.pinned (.plain (OpenSpec.ofChange fnRollingCheckTilesSpec)) fnRollingCheckTilesCard
/-- ITS FALSE NEIGHBOUR. Refute it at one input. -/
def FnRollingCheckTilesToldWrongFalsely : Prop := Claim7.holds Tryf.pinned (.plain (OpenSpec.ofChange fnRollingCheckTilesWrong)) fnRollingCheckTilesCard

/-- THE TOLD AND TIED CARD OF 'zzlaws_root_e1.FnFunnelCheckExactly'. -/
def fnFunnelCheckExactlyCard : Claim7 := { stood := { row := fnFunnelCheckExactlyRow, standIns := [], harness := (true, "63ee4409f152f5624adf28cf22a43561cc1d6684e74a6d834021438b524cc161"), looks := false }, told := true, laidByText := true, laidKinds := [.data, .data, .data], laidTests := true, laidLooks := .later, goes := false }
def FnFunnelCheckExactlyToldSaid : Prop := Claim7.holds Tryf.pinned (.plain (OpenSpec.ofChange fnFunnelCheckExactlySpec)) fnFunnelCheckExactlyCard
/-- ITS FALSE NEIGHBOUR. Refute it at one input. -/
def FnFunnelCheckExactlyToldWrongFalsely : Prop := Claim7.holds Tryf.pinned (.plain (OpenSpec.ofChange fnFunnelCheckExactlyWrong)) fnFunnelCheckExactlyCard

/-- THE TOLD AND TIED CARD OF 'zzlaws_root_e1.FnFunnelCheckDownwardClosed'. -/
def fnFunnelCheckDownwardClosedCard : Claim7 := { stood := { row := fnFunnelCheckDownwardClosedRow, standIns := [], harness := (true, "63ee4409f152f5624adf28cf22a43561cc1d6684e74a6d834021438b524cc161"), looks := false }, told := true, laidByText := true, laidKinds := [.data, .data, .data], laidTests := true, laidLooks := .later, goes := false }
def FnFunnelCheckDownwardClosedToldSaid : Prop := Claim7.holds Tryf.pinned (.plain (OpenSpec.ofChange fnFunnelCheckDownwardClosedSpec)) fnFunnelCheckDownwardClosedCard
/-- ITS FALSE NEIGHBOUR. Refute it at one input. -/
def FnFunnelCheckDownwardClosedToldWrongFalsely : Prop := Claim7.holds Tryf.pinned (.plain (OpenSpec.ofChange fnFunnelCheckDownwardClosedWrong)) fnFunnelCheckDownwardClosedCard
end Rows
end Go.Proofs.Qxb6001731aFmt
