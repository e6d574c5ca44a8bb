/-
  DERIVED. GIVEN WITH THE SEED: THE CARDS: each row of YtnagdbnfdedejaaFmtRows.lean that lists a variable, with what it lists TIED to the program's text (the seventh form; the later family's looks); each row that meets fmt, with fmt's text TOLD by the authors' own Lean function (tested against real Go, not proved from fmt's source: count such statements apart). THE CARD IS WHAT COUNTS. Prove the row's statement (the work); the ties are given (YtnagdbnfdedejaaFmtTie.lean); close each card by the builder's one call (the guide's Derived/Test/ToyasCard.lean, 'card_holds'). Laid BY PROGRAM, IN A SANDBOX (cutbox-door.mjs). By AI agents, Wed Nov 11 2026. No macro, syntax, notation, axiom, sorry.
-/
import Derived.Test.YtnagdbnfdedejaaFmtRows
import GoSem.ClaimSeven
namespace Go.Proofs.YtnagdbnfdedejaaFmt
namespace Rows

/-- THE TOLD CARD OF 'n008_55.FnFodderConcatIsFoldOfAppend'. -/
def fnFodderConcatIsFoldOfAppendCard : Claim7 := { stood := { row := fnFodderConcatIsFoldOfAppendRow, standIns := [], harness := (true, "daa7c6e1cbf1f169ba8ae10dd2f7ed93912557c866c3612e4bdd9c251ff880bb"), looks := false }, told := true, goes := false }
def FnFodderConcatIsFoldOfAppendToldSaid : Prop := Claim7.holds Tryf.pinned (.plain (OpenSpec.ofChange fnFodderConcatIsFoldOfAppendSpec)) fnFodderConcatIsFoldOfAppendCard
/-- ITS FALSE NEIGHBOUR. Refute it at one input. -/
def FnFodderConcatIsFoldOfAppendToldWrongFalsely : Prop := Claim7.holds Tryf.pinned (.plain (OpenSpec.ofChange fnFodderConcatIsFoldOfAppendWrong)) fnFodderConcatIsFoldOfAppendCard

/-- THE TOLD CARD OF 'n008_55.FnFodderMoveFrontModel'. -/
def fnFodderMoveFrontModelCard : Claim7 := { stood := { row := fnFodderMoveFrontModelRow, standIns := [], harness := (true, "daa7c6e1cbf1f169ba8ae10dd2f7ed93912557c866c3612e4bdd9c251ff880bb"), looks := false }, told := true, goes := false }
def FnFodderMoveFrontModelToldSaid : Prop := Claim7.holds Tryf.pinned (.plain (OpenSpec.ofChange fnFodderMoveFrontModelSpec)) fnFodderMoveFrontModelCard
/-- ITS FALSE NEIGHBOUR. Refute it at one input. -/
def FnFodderMoveFrontModelToldWrongFalsely : Prop := Claim7.holds Tryf.pinned (.plain (OpenSpec.ofChange fnFodderMoveFrontModelWrong)) fnFodderMoveFrontModelCard

/-- THE TOLD CARD OF 'n008_55.FnFodderMoveFrontTwiceIsOnce'. -/
def fnFodderMoveFrontTwiceIsOnceCard : Claim7 := { stood := { row := fnFodderMoveFrontTwiceIsOnceRow, standIns := [], harness := (true, "daa7c6e1cbf1f169ba8ae10dd2f7ed93912557c866c3612e4bdd9c251ff880bb"), looks := false }, told := true, goes := false }
def FnFodderMoveFrontTwiceIsOnceToldSaid : Prop := Claim7.holds Tryf.pinned (.plain (OpenSpec.ofChange fnFodderMoveFrontTwiceIsOnceSpec)) fnFodderMoveFrontTwiceIsOnceCard
/-- ITS FALSE NEIGHBOUR. Refute it at one input. -/
def FnFodderMoveFrontTwiceIsOnceToldWrongFalsely : Prop := Claim7.holds Tryf.pinned (.plain (OpenSpec.ofChange fnFodderMoveFrontTwiceIsOnceWrong)) fnFodderMoveFrontTwiceIsOnceCard

/-- THE TOLD CARD OF 'n008_55.FnFodderAppendKeepsWellFormed'. -/
def fnFodderAppendKeepsWellFormedCard : Claim7 := { stood := { row := fnFodderAppendKeepsWellFormedRow, standIns := [], harness := (true, "daa7c6e1cbf1f169ba8ae10dd2f7ed93912557c866c3612e4bdd9c251ff880bb"), looks := false }, told := true, goes := false }
def FnFodderAppendKeepsWellFormedToldSaid : Prop := Claim7.holds Tryf.pinned (.plain (OpenSpec.ofChange fnFodderAppendKeepsWellFormedSpec)) fnFodderAppendKeepsWellFormedCard
/-- ITS FALSE NEIGHBOUR. Refute it at one input. -/
def FnFodderAppendKeepsWellFormedToldWrongFalsely : Prop := Claim7.holds Tryf.pinned (.plain (OpenSpec.ofChange fnFodderAppendKeepsWellFormedWrong)) fnFodderAppendKeepsWellFormedCard

/-- THE TOLD CARD OF 'n008_55.FnFodderEnsureCleanNewlineIdempotent'. -/
def fnFodderEnsureCleanNewlineIdempotentCard : Claim7 := { stood := { row := fnFodderEnsureCleanNewlineIdempotentRow, standIns := [], harness := (true, "daa7c6e1cbf1f169ba8ae10dd2f7ed93912557c866c3612e4bdd9c251ff880bb"), looks := false }, told := true, goes := false }
def FnFodderEnsureCleanNewlineIdempotentToldSaid : Prop := Claim7.holds Tryf.pinned (.plain (OpenSpec.ofChange fnFodderEnsureCleanNewlineIdempotentSpec)) fnFodderEnsureCleanNewlineIdempotentCard
/-- ITS FALSE NEIGHBOUR. Refute it at one input. -/
def FnFodderEnsureCleanNewlineIdempotentToldWrongFalsely : Prop := Claim7.holds Tryf.pinned (.plain (OpenSpec.ofChange fnFodderEnsureCleanNewlineIdempotentWrong)) fnFodderEnsureCleanNewlineIdempotentCard

/-- THE TOLD CARD OF 'n008_55.FnFodderConcatKeepsWellFormed'. -/
def fnFodderConcatKeepsWellFormedCard : Claim7 := { stood := { row := fnFodderConcatKeepsWellFormedRow, standIns := [], harness := (true, "daa7c6e1cbf1f169ba8ae10dd2f7ed93912557c866c3612e4bdd9c251ff880bb"), looks := false }, told := true, goes := false }
def FnFodderConcatKeepsWellFormedToldSaid : Prop := Claim7.holds Tryf.pinned (.plain (OpenSpec.ofChange fnFodderConcatKeepsWellFormedSpec)) fnFodderConcatKeepsWellFormedCard
/-- ITS FALSE NEIGHBOUR. Refute it at one input. -/
def FnFodderConcatKeepsWellFormedToldWrongFalsely : Prop := Claim7.holds Tryf.pinned (.plain (OpenSpec.ofChange fnFodderConcatKeepsWellFormedWrong)) fnFodderConcatKeepsWellFormedCard
end Rows
end Go.Proofs.YtnagdbnfdedejaaFmt
