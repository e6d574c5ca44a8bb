/-
  DERIVED. GIVEN WITH THE SEED: THE CARDS: each row of YtcmjknimniaggaaFmtRows.lean that lists a variable, with what it lists TIED to the program's text (the seventh form; the later family's looks); each row that meets fmt, with fmt's text TOLD by the authors' own Lean function (tested against real Go, not proved from fmt's source: count such statements apart). THE CARD IS WHAT COUNTS. Prove the row's statement (the work); the ties are given (YtcmjknimniaggaaFmtTie.lean); close each card by the builder's one call (the guide's Derived/Test/ToyasCard.lean, 'card_holds'). Laid BY PROGRAM, IN A SANDBOX (cutbox-door.mjs). By AI agents, Wed Nov 11 2026. No macro, syntax, notation, axiom, sorry.
-/
import Derived.Test.YtcmjknimniaggaaFmtRows
import GoSem.ClaimSeven
namespace Go.Proofs.YtcmjknimniaggaaFmt
namespace Rows

/-- THE TOLD CARD OF 'n008_165.FnFullyEscapedExactlyQuotedKinds'. -/
def fnFullyEscapedExactlyQuotedKindsCard : Claim7 := { stood := { row := fnFullyEscapedExactlyQuotedKindsRow, standIns := [], harness := (true, "1d503385fb2a60a4b8f7f579dfe71b6824e04030ff84fdfcf0abcc4f335b846b"), looks := false }, told := true, goes := false }
def FnFullyEscapedExactlyQuotedKindsToldSaid : Prop := Claim7.holds Tryf.pinned (.plain (OpenSpec.ofChange fnFullyEscapedExactlyQuotedKindsSpec)) fnFullyEscapedExactlyQuotedKindsCard
/-- ITS FALSE NEIGHBOUR. Refute it at one input. -/
def FnFullyEscapedExactlyQuotedKindsToldWrongFalsely : Prop := Claim7.holds Tryf.pinned (.plain (OpenSpec.ofChange fnFullyEscapedExactlyQuotedKindsWrong)) fnFullyEscapedExactlyQuotedKindsCard

/-- THE TOLD CARD OF 'n008_165.FnFullyEscapedDownwardClosed'. -/
def fnFullyEscapedDownwardClosedCard : Claim7 := { stood := { row := fnFullyEscapedDownwardClosedRow, standIns := [], harness := (true, "1d503385fb2a60a4b8f7f579dfe71b6824e04030ff84fdfcf0abcc4f335b846b"), looks := false }, told := true, goes := false }
def FnFullyEscapedDownwardClosedToldSaid : Prop := Claim7.holds Tryf.pinned (.plain (OpenSpec.ofChange fnFullyEscapedDownwardClosedSpec)) fnFullyEscapedDownwardClosedCard
/-- ITS FALSE NEIGHBOUR. Refute it at one input. -/
def FnFullyEscapedDownwardClosedToldWrongFalsely : Prop := Claim7.holds Tryf.pinned (.plain (OpenSpec.ofChange fnFullyEscapedDownwardClosedWrong)) fnFullyEscapedDownwardClosedCard
end Rows
end Go.Proofs.YtcmjknimniaggaaFmt
