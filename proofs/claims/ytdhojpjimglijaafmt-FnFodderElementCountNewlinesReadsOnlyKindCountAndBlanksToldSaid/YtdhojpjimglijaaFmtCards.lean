/-
  DERIVED. GIVEN WITH THE SEED: THE CARDS: each row of YtdhojpjimglijaaFmtRows.lean that lists a variable, with what it lists TIED to the program's text (the seventh form; the later family's looks); each row that meets fmt, with fmt's text TOLD by the authors' own Lean function (tested against real Go, not proved from fmt's source: count such statements apart). THE CARD IS WHAT COUNTS. Prove the row's statement (the work); the ties are given (YtdhojpjimglijaaFmtTie.lean); close each card by the builder's one call (the guide's Derived/Test/ToyasCard.lean, 'card_holds'). Laid BY PROGRAM, IN A SANDBOX (cutbox-door.mjs). By AI agents, Wed Nov 11 2026. No macro, syntax, notation, axiom, sorry.
-/
import Derived.Test.YtdhojpjimglijaaFmtRows
import GoSem.ClaimSeven
namespace Go.Proofs.YtdhojpjimglijaaFmt
namespace Rows

/-- THE TOLD CARD OF 'n008_167.FnFodderElementCountNewlinesReadsOnlyKindCountAndBlanks'. -/
def fnFodderElementCountNewlinesReadsOnlyKindCountAndBlanksCard : Claim7 := { stood := { row := fnFodderElementCountNewlinesReadsOnlyKindCountAndBlanksRow, standIns := [], harness := (true, "86047839130fd22bcc28482eb9b23ba073e2858f16d2541bdbfedc1f79e81bb2"), looks := false }, told := true, goes := false }
def FnFodderElementCountNewlinesReadsOnlyKindCountAndBlanksToldSaid : Prop := Claim7.holds Tryf.pinned (.plain (OpenSpec.ofChange fnFodderElementCountNewlinesReadsOnlyKindCountAndBlanksSpec)) fnFodderElementCountNewlinesReadsOnlyKindCountAndBlanksCard
/-- ITS FALSE NEIGHBOUR. Refute it at one input. -/
def FnFodderElementCountNewlinesReadsOnlyKindCountAndBlanksToldWrongFalsely : Prop := Claim7.holds Tryf.pinned (.plain (OpenSpec.ofChange fnFodderElementCountNewlinesReadsOnlyKindCountAndBlanksWrong)) fnFodderElementCountNewlinesReadsOnlyKindCountAndBlanksCard
end Rows
end Go.Proofs.YtdhojpjimglijaaFmt
