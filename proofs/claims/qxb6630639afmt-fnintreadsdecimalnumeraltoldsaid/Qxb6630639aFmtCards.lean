/-
  DERIVED. GIVEN WITH THE SEED: THE CARDS: each row of Qxb6630639aFmtRows.lean that lists a variable, with what it lists TIED to the program's text (the seventh form; the later family's looks); each row that meets fmt, with fmt's text TOLD by the authors' own Lean function (tested against real Go, not proved from fmt's source: count such statements apart). THE CARD IS WHAT COUNTS. Prove the row's statement (the work); the ties are given (Qxb6630639aFmtTie.lean); close each card by the builder's one call (the guide's Derived/Test/ToyasCard.lean, 'card_holds'). Laid BY PROGRAM, IN A SANDBOX (cutbox-door.mjs). By AI agents, Wed Nov 11 2026. No macro, syntax, notation, axiom, sorry.
-/
import Derived.Test.Qxb6630639aFmtRows
import GoSem.ClaimSeven
namespace Go.Proofs.Qxb6630639aFmt
namespace Rows

/-- THE TOLD AND TIED CARD OF 'zzlaws_internal_cmdlang_b1.FnIntReadsDecimalNumeral'. -/
def fnIntReadsDecimalNumeralCard : Claim7 := { stood := { row := fnIntReadsDecimalNumeralRow, standIns := [], harness := (true, "dbc1b6f1d072618e21893fba4641fce96dbe699d867c9ba5429172053fd6b0c7"), looks := true }, told := true, laidByText := true, laidKinds := [.data, .data, .data, .sentinel, .sentinel], laidTests := true, laidLooks := .later, goes := false }
def FnIntReadsDecimalNumeralToldSaid : Prop := Claim7.holds Tryf.pinned (.plain (OpenSpec.ofChange fnIntReadsDecimalNumeralSpec)) fnIntReadsDecimalNumeralCard
/-- ITS FALSE NEIGHBOUR. Refute it at one input. -/
def FnIntReadsDecimalNumeralToldWrongFalsely : Prop := Claim7.holds Tryf.pinned (.plain (OpenSpec.ofChange fnIntReadsDecimalNumeralWrong)) fnIntReadsDecimalNumeralCard

/-- THE TOLD AND TIED CARD OF 'zzlaws_internal_cmdlang_b1.FnIntRangeCut'. -/
def fnIntRangeCutCard : Claim7 := { stood := { row := fnIntRangeCutRow, standIns := [], harness := (true, "dbc1b6f1d072618e21893fba4641fce96dbe699d867c9ba5429172053fd6b0c7"), looks := true }, told := true, laidByText := true, laidKinds := [.data, .data, .data, .sentinel, .sentinel], laidTests := true, laidLooks := .later, goes := false }
def FnIntRangeCutToldSaid : Prop := Claim7.holds Tryf.pinned (.plain (OpenSpec.ofChange fnIntRangeCutSpec)) fnIntRangeCutCard
/-- ITS FALSE NEIGHBOUR. Refute it at one input. -/
def FnIntRangeCutToldWrongFalsely : Prop := Claim7.holds Tryf.pinned (.plain (OpenSpec.ofChange fnIntRangeCutWrong)) fnIntRangeCutCard
end Rows
end Go.Proofs.Qxb6630639aFmt
