/-
  DERIVED. GIVEN WITH THE SEED: THE CARDS: each row of Qxb6612529aFmtRows.lean that lists a variable, with what it lists TIED to the program's text (the seventh form; the later family's looks); each row that meets fmt, with fmt's text TOLD by the authors' own Lean function (tested against real Go, not proved from fmt's source: count such statements apart). THE CARD IS WHAT COUNTS. Prove the row's statement (the work); the ties are given (Qxb6612529aFmtTie.lean); close each card by the builder's one call (the guide's Derived/Test/ToyasCard.lean, 'card_holds'). Laid BY PROGRAM, IN A SANDBOX (cutbox-door.mjs). By AI agents, Wed Nov 11 2026. No macro, syntax, notation, axiom, sorry.
-/
import Derived.Test.Qxb6612529aFmtRows
import GoSem.ClaimSeven
namespace Go.Proofs.Qxb6612529aFmt
namespace Rows

/-- THE TOLD CARD OF 'zzlaws_pkg_terms_b1.FnSyntaxErrorTextReadsBack'. -/
def fnSyntaxErrorTextReadsBackCard : Claim7 := { stood := { row := fnSyntaxErrorTextReadsBackRow, standIns := [], harness := (true, "36c18e90ed41410a6924c43c6f87ae956562386bb078473d356f1b1f0ae09c12"), looks := false }, told := true, goes := false }
def FnSyntaxErrorTextReadsBackToldSaid : Prop := Claim7.holds Tryf.pinned (.plain (OpenSpec.ofChange fnSyntaxErrorTextReadsBackSpec)) fnSyntaxErrorTextReadsBackCard
/-- ITS FALSE NEIGHBOUR. Refute it at one input. -/
def FnSyntaxErrorTextReadsBackToldWrongFalsely : Prop := Claim7.holds Tryf.pinned (.plain (OpenSpec.ofChange fnSyntaxErrorTextReadsBackWrong)) fnSyntaxErrorTextReadsBackCard

/-- THE TOLD CARD OF 'zzlaws_pkg_terms_b1.FnEndOfEntryStopsWhereFlowSpaceEnds'. -/
def fnEndOfEntryStopsWhereFlowSpaceEndsCard : Claim7 := { stood := { row := fnEndOfEntryStopsWhereFlowSpaceEndsRow, standIns := [], harness := (true, "36c18e90ed41410a6924c43c6f87ae956562386bb078473d356f1b1f0ae09c12"), looks := false }, told := true, goes := false }
def FnEndOfEntryStopsWhereFlowSpaceEndsToldSaid : Prop := Claim7.holds Tryf.pinned (.plain (OpenSpec.ofChange fnEndOfEntryStopsWhereFlowSpaceEndsSpec)) fnEndOfEntryStopsWhereFlowSpaceEndsCard
/-- ITS FALSE NEIGHBOUR. Refute it at one input. -/
def FnEndOfEntryStopsWhereFlowSpaceEndsToldWrongFalsely : Prop := Claim7.holds Tryf.pinned (.plain (OpenSpec.ofChange fnEndOfEntryStopsWhereFlowSpaceEndsWrong)) fnEndOfEntryStopsWhereFlowSpaceEndsCard

/-- THE TOLD CARD OF 'zzlaws_pkg_terms_b1.FnEndOfEntryBookkeepingMatchesPassedText'. -/
def fnEndOfEntryBookkeepingMatchesPassedTextCard : Claim7 := { stood := { row := fnEndOfEntryBookkeepingMatchesPassedTextRow, standIns := [], harness := (true, "36c18e90ed41410a6924c43c6f87ae956562386bb078473d356f1b1f0ae09c12"), looks := false }, told := true, goes := false }
def FnEndOfEntryBookkeepingMatchesPassedTextToldSaid : Prop := Claim7.holds Tryf.pinned (.plain (OpenSpec.ofChange fnEndOfEntryBookkeepingMatchesPassedTextSpec)) fnEndOfEntryBookkeepingMatchesPassedTextCard
/-- ITS FALSE NEIGHBOUR. Refute it at one input. -/
def FnEndOfEntryBookkeepingMatchesPassedTextToldWrongFalsely : Prop := Claim7.holds Tryf.pinned (.plain (OpenSpec.ofChange fnEndOfEntryBookkeepingMatchesPassedTextWrong)) fnEndOfEntryBookkeepingMatchesPassedTextCard
end Rows
end Go.Proofs.Qxb6612529aFmt
