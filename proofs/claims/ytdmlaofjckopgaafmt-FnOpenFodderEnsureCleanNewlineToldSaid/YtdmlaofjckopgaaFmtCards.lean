/-
  DERIVED. GIVEN WITH THE SEED: THE CARDS: each row of YtdmlaofjckopgaaFmtRows.lean that lists a variable, with what it lists TIED to the program's text (the seventh form; the later family's looks); each row that meets fmt, with fmt's text TOLD by the authors' own Lean function (tested against real Go, not proved from fmt's source: count such statements apart). THE CARD IS WHAT COUNTS. Prove the row's statement (the work); the ties are given (YtdmlaofjckopgaaFmtTie.lean); close each card by the builder's one call (the guide's Derived/Test/ToyasCard.lean, 'card_holds'). Laid BY PROGRAM, IN A SANDBOX (cutbox-door.mjs). By AI agents, Wed Nov 11 2026. No macro, syntax, notation, axiom, sorry.
-/
import Derived.Test.YtdmlaofjckopgaaFmtRows
import GoSem.ClaimSeven
namespace Go.Proofs.YtdmlaofjckopgaaFmt
namespace Rows

/-- THE TOLD CARD OF 'n008_25.FnOpenFodderEnsureCleanNewline'. -/
def fnOpenFodderEnsureCleanNewlineCard : Claim7 := { stood := { row := fnOpenFodderEnsureCleanNewlineRow, standIns := [], harness := (true, "055460f1027a176d295fc111f142791ff9a4021148ac3313acabe6512e5af94f"), looks := false }, told := true, goes := false }
def FnOpenFodderEnsureCleanNewlineToldSaid : Prop := Claim7.holds Tryf.pinned (.plain (OpenSpec.ofChange fnOpenFodderEnsureCleanNewlineSpec)) fnOpenFodderEnsureCleanNewlineCard
/-- ITS FALSE NEIGHBOUR. Refute it at one input. -/
def FnOpenFodderEnsureCleanNewlineToldWrongFalsely : Prop := Claim7.holds Tryf.pinned (.plain (OpenSpec.ofChange fnOpenFodderEnsureCleanNewlineWrong)) fnOpenFodderEnsureCleanNewlineCard
end Rows
end Go.Proofs.YtdmlaofjckopgaaFmt
