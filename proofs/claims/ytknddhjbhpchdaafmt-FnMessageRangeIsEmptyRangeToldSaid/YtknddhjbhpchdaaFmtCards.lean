/-
  DERIVED. GIVEN WITH THE SEED: THE CARDS: each row of YtknddhjbhpchdaaFmtRows.lean that lists a variable, with what it lists TIED to the program's text (the seventh form; the later family's looks); each row that meets fmt, with fmt's text TOLD by the authors' own Lean function (tested against real Go, not proved from fmt's source: count such statements apart). THE CARD IS WHAT COUNTS. Prove the row's statement (the work); the ties are given (YtknddhjbhpchdaaFmtTie.lean); close each card by the builder's one call (the guide's Derived/Test/ToyasCard.lean, 'card_holds'). Laid BY PROGRAM, IN A SANDBOX (cutbox-door.mjs). By AI agents, Wed Nov 11 2026. No macro, syntax, notation, axiom, sorry.
-/
import Derived.Test.YtknddhjbhpchdaaFmtRows
import GoSem.ClaimSeven
namespace Go.Proofs.YtknddhjbhpchdaaFmt
namespace Rows

/-- THE TOLD CARD OF 'n008_33.FnMessageRangeInjective'. -/
def fnMessageRangeInjectiveCard : Claim7 := { stood := { row := fnMessageRangeInjectiveRow, standIns := [], harness := (true, "2df25eed812576bb159f6270000c1f19d1c55eac8fabba55f36309682aace7dc"), looks := false }, told := true, goes := false }
def FnMessageRangeInjectiveToldSaid : Prop := Claim7.holds Tryf.pinned (.plain (OpenSpec.ofChange fnMessageRangeInjectiveSpec)) fnMessageRangeInjectiveCard
/-- ITS FALSE NEIGHBOUR. Refute it at one input. -/
def FnMessageRangeInjectiveToldWrongFalsely : Prop := Claim7.holds Tryf.pinned (.plain (OpenSpec.ofChange fnMessageRangeInjectiveWrong)) fnMessageRangeInjectiveCard

/-- THE TOLD CARD OF 'n008_33.FnMessageRangeIsEmptyRange'. -/
def fnMessageRangeIsEmptyRangeCard : Claim7 := { stood := { row := fnMessageRangeIsEmptyRangeRow, standIns := [], harness := (true, "2df25eed812576bb159f6270000c1f19d1c55eac8fabba55f36309682aace7dc"), looks := false }, told := true, goes := false }
def FnMessageRangeIsEmptyRangeToldSaid : Prop := Claim7.holds Tryf.pinned (.plain (OpenSpec.ofChange fnMessageRangeIsEmptyRangeSpec)) fnMessageRangeIsEmptyRangeCard
/-- ITS FALSE NEIGHBOUR. Refute it at one input. -/
def FnMessageRangeIsEmptyRangeToldWrongFalsely : Prop := Claim7.holds Tryf.pinned (.plain (OpenSpec.ofChange fnMessageRangeIsEmptyRangeWrong)) fnMessageRangeIsEmptyRangeCard
end Rows
end Go.Proofs.YtknddhjbhpchdaaFmt
