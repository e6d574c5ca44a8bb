/-
  No cell of these rows narrows 'for every input' (looked for: loops, veiled, ifaces, maps, wideKeys, modest, calm, conditions, laid).
  DERIVED. THE GIVEN ROWS OF THIS SEAT. 6 by the template 'for every input the law returns true; each argument reads behind the call as it read before'; 0 by the template 'total and deterministic' (their statements: YtnagdbnfdedejaaFmtTotals.lean).
  GIVEN WITH THE SEED: the statements are not yours to turn. If you find one false, say at which input.
  Laid BY PROGRAM, IN A SANDBOX (cutbox-rows.mjs): the forced cells as the released guide's own fill.sh prints them over the translation 1d48a28fcb5dca80… (all of the seat's roots in one cut). By AI agents, Wed Nov 11 2026. No macro, syntax, notation, axiom, sorry.
-/
import Derived.Test.YtnagdbnfdedejaaFmtChecked
import GoSem.Claim
import GoSem.ClaimJoined
import GoSem.ClaimMapViews
import Derived.JoinedTies
import Derived.KernelRfl
namespace Go.Proofs.YtnagdbnfdedejaaFmt
/- THE CELL 'sum', in the pinned program and in every row, IS THE sha256 OF THE DUMP (.gsa) THAT YtnagdbnfdedejaaFmtProg.lean LOADS. Nothing in Lean hashes anything: it is a label: what it is worth is what the hold of that sum in a sandbox is worth. -/
noncomputable def Tryf.pinned : Pinned := { name := "ytnagdbnfdedejaafmt", sum := "1d48a28fcb5dca805130496e4a6f13139f8758c677fa581d4fa363ff18482f3d", checked := Tryf.checked }
namespace Rows
def none {H : Type} : Left H := { results := [], args := [] }

/-- 'n008_55.FnFodderConcatIsFoldOfAppend': WHATEVER THE INPUT: true; the input reads as it did. -/
def fnFodderConcatIsFoldOfAppendSpec : ChangeSpec := { name := "fnFodderConcatIsFoldOfAppend", fn := fun _ => fun
  | [d1, d2] => { results := [.lit (.bool true)], args := [d1, d2] }
  | _ => none }
def fnFodderConcatIsFoldOfAppendRow : OpenClaim := { program := "ytnagdbnfdedejaafmt", sum := "1d48a28fcb5dca805130496e4a6f13139f8758c677fa581d4fa363ff18482f3d", func := "github.com/google/go-jsonnet/n008_55.FnFodderConcatIsFoldOfAppend", spec := "fnFodderConcatIsFoldOfAppend", stops := ["fmt.Sprintf"], inPlace := ["fmt.Sprintf"], apart := false }
/-- NO THEOREM (fmt's text is open here; it may be false): for the released tool's asking of the row's closed facts alone. THE STATEMENT IS 'FnFodderConcatIsFoldOfAppendToldSaid' (YtnagdbnfdedejaaFmtCards.lean). -/
def FnFodderConcatIsFoldOfAppendFormAsk : Prop := fnFodderConcatIsFoldOfAppendRow.holds Tryf.pinned (OpenSpec.ofChange fnFodderConcatIsFoldOfAppendSpec)

/-- ITS FALSE NEIGHBOUR: 'it returns false'. Refute it at one input. -/
def fnFodderConcatIsFoldOfAppendWrong : ChangeSpec := { name := "fnFodderConcatIsFoldOfAppend", fn := fun _ => fun
  | [d1, d2] => { results := [.lit (.bool false)], args := [d1, d2] }
  | _ => none }
def FnFodderConcatIsFoldOfAppendWrongFormAsk : Prop := fnFodderConcatIsFoldOfAppendRow.holds Tryf.pinned (OpenSpec.ofChange fnFodderConcatIsFoldOfAppendWrong)

/-- 'n008_55.FnFodderMoveFrontModel': WHATEVER THE INPUT: true; the input reads as it did. -/
def fnFodderMoveFrontModelSpec : ChangeSpec := { name := "fnFodderMoveFrontModel", fn := fun _ => fun
  | [d1, d2] => { results := [.lit (.bool true)], args := [d1, d2] }
  | _ => none }
def fnFodderMoveFrontModelRow : OpenClaim := { program := "ytnagdbnfdedejaafmt", sum := "1d48a28fcb5dca805130496e4a6f13139f8758c677fa581d4fa363ff18482f3d", func := "github.com/google/go-jsonnet/n008_55.FnFodderMoveFrontModel", spec := "fnFodderMoveFrontModel", stops := ["fmt.Sprintf"], inPlace := ["fmt.Sprintf"], apart := false }
/-- NO THEOREM (fmt's text is open here; it may be false): for the released tool's asking of the row's closed facts alone. THE STATEMENT IS 'FnFodderMoveFrontModelToldSaid' (YtnagdbnfdedejaaFmtCards.lean). -/
def FnFodderMoveFrontModelFormAsk : Prop := fnFodderMoveFrontModelRow.holds Tryf.pinned (OpenSpec.ofChange fnFodderMoveFrontModelSpec)

/-- ITS FALSE NEIGHBOUR: 'it returns false'. Refute it at one input. -/
def fnFodderMoveFrontModelWrong : ChangeSpec := { name := "fnFodderMoveFrontModel", fn := fun _ => fun
  | [d1, d2] => { results := [.lit (.bool false)], args := [d1, d2] }
  | _ => none }
def FnFodderMoveFrontModelWrongFormAsk : Prop := fnFodderMoveFrontModelRow.holds Tryf.pinned (OpenSpec.ofChange fnFodderMoveFrontModelWrong)

/-- 'n008_55.FnFodderMoveFrontTwiceIsOnce': WHATEVER THE INPUT: true; the input reads as it did. -/
def fnFodderMoveFrontTwiceIsOnceSpec : ChangeSpec := { name := "fnFodderMoveFrontTwiceIsOnce", fn := fun _ => fun
  | [d1, d2, d3] => { results := [.lit (.bool true)], args := [d1, d2, d3] }
  | _ => none }
def fnFodderMoveFrontTwiceIsOnceRow : OpenClaim := { program := "ytnagdbnfdedejaafmt", sum := "1d48a28fcb5dca805130496e4a6f13139f8758c677fa581d4fa363ff18482f3d", func := "github.com/google/go-jsonnet/n008_55.FnFodderMoveFrontTwiceIsOnce", spec := "fnFodderMoveFrontTwiceIsOnce", stops := ["fmt.Sprintf"], inPlace := ["fmt.Sprintf"], apart := false }
/-- NO THEOREM (fmt's text is open here; it may be false): for the released tool's asking of the row's closed facts alone. THE STATEMENT IS 'FnFodderMoveFrontTwiceIsOnceToldSaid' (YtnagdbnfdedejaaFmtCards.lean). -/
def FnFodderMoveFrontTwiceIsOnceFormAsk : Prop := fnFodderMoveFrontTwiceIsOnceRow.holds Tryf.pinned (OpenSpec.ofChange fnFodderMoveFrontTwiceIsOnceSpec)

/-- ITS FALSE NEIGHBOUR: 'it returns false'. Refute it at one input. -/
def fnFodderMoveFrontTwiceIsOnceWrong : ChangeSpec := { name := "fnFodderMoveFrontTwiceIsOnce", fn := fun _ => fun
  | [d1, d2, d3] => { results := [.lit (.bool false)], args := [d1, d2, d3] }
  | _ => none }
def FnFodderMoveFrontTwiceIsOnceWrongFormAsk : Prop := fnFodderMoveFrontTwiceIsOnceRow.holds Tryf.pinned (OpenSpec.ofChange fnFodderMoveFrontTwiceIsOnceWrong)

/-- 'n008_55.FnFodderAppendKeepsWellFormed': WHATEVER THE INPUT: true; the input reads as it did. -/
def fnFodderAppendKeepsWellFormedSpec : ChangeSpec := { name := "fnFodderAppendKeepsWellFormed", fn := fun _ => fun
  | [d1, d2] => { results := [.lit (.bool true)], args := [d1, d2] }
  | _ => none }
def fnFodderAppendKeepsWellFormedRow : OpenClaim := { program := "ytnagdbnfdedejaafmt", sum := "1d48a28fcb5dca805130496e4a6f13139f8758c677fa581d4fa363ff18482f3d", func := "github.com/google/go-jsonnet/n008_55.FnFodderAppendKeepsWellFormed", spec := "fnFodderAppendKeepsWellFormed", stops := ["fmt.Sprintf"], inPlace := ["fmt.Sprintf"], apart := false }
/-- NO THEOREM (fmt's text is open here; it may be false): for the released tool's asking of the row's closed facts alone. THE STATEMENT IS 'FnFodderAppendKeepsWellFormedToldSaid' (YtnagdbnfdedejaaFmtCards.lean). -/
def FnFodderAppendKeepsWellFormedFormAsk : Prop := fnFodderAppendKeepsWellFormedRow.holds Tryf.pinned (OpenSpec.ofChange fnFodderAppendKeepsWellFormedSpec)

/-- ITS FALSE NEIGHBOUR: 'it returns false'. Refute it at one input. -/
def fnFodderAppendKeepsWellFormedWrong : ChangeSpec := { name := "fnFodderAppendKeepsWellFormed", fn := fun _ => fun
  | [d1, d2] => { results := [.lit (.bool false)], args := [d1, d2] }
  | _ => none }
def FnFodderAppendKeepsWellFormedWrongFormAsk : Prop := fnFodderAppendKeepsWellFormedRow.holds Tryf.pinned (OpenSpec.ofChange fnFodderAppendKeepsWellFormedWrong)

/-- 'n008_55.FnFodderEnsureCleanNewlineIdempotent': WHATEVER THE INPUT: true; the input reads as it did. -/
def fnFodderEnsureCleanNewlineIdempotentSpec : ChangeSpec := { name := "fnFodderEnsureCleanNewlineIdempotent", fn := fun _ => fun
  | [d] => { results := [.lit (.bool true)], args := [d] }
  | _ => none }
def fnFodderEnsureCleanNewlineIdempotentRow : OpenClaim := { program := "ytnagdbnfdedejaafmt", sum := "1d48a28fcb5dca805130496e4a6f13139f8758c677fa581d4fa363ff18482f3d", func := "github.com/google/go-jsonnet/n008_55.FnFodderEnsureCleanNewlineIdempotent", spec := "fnFodderEnsureCleanNewlineIdempotent", stops := ["fmt.Sprintf"], inPlace := ["fmt.Sprintf"], apart := false }
/-- NO THEOREM (fmt's text is open here; it may be false): for the released tool's asking of the row's closed facts alone. THE STATEMENT IS 'FnFodderEnsureCleanNewlineIdempotentToldSaid' (YtnagdbnfdedejaaFmtCards.lean). -/
def FnFodderEnsureCleanNewlineIdempotentFormAsk : Prop := fnFodderEnsureCleanNewlineIdempotentRow.holds Tryf.pinned (OpenSpec.ofChange fnFodderEnsureCleanNewlineIdempotentSpec)

/-- ITS FALSE NEIGHBOUR: 'it returns false'. Refute it at one input. -/
def fnFodderEnsureCleanNewlineIdempotentWrong : ChangeSpec := { name := "fnFodderEnsureCleanNewlineIdempotent", fn := fun _ => fun
  | [d] => { results := [.lit (.bool false)], args := [d] }
  | _ => none }
def FnFodderEnsureCleanNewlineIdempotentWrongFormAsk : Prop := fnFodderEnsureCleanNewlineIdempotentRow.holds Tryf.pinned (OpenSpec.ofChange fnFodderEnsureCleanNewlineIdempotentWrong)

/-- 'n008_55.FnFodderConcatKeepsWellFormed': WHATEVER THE INPUT: true; the input reads as it did. -/
def fnFodderConcatKeepsWellFormedSpec : ChangeSpec := { name := "fnFodderConcatKeepsWellFormed", fn := fun _ => fun
  | [d1, d2] => { results := [.lit (.bool true)], args := [d1, d2] }
  | _ => none }
def fnFodderConcatKeepsWellFormedRow : OpenClaim := { program := "ytnagdbnfdedejaafmt", sum := "1d48a28fcb5dca805130496e4a6f13139f8758c677fa581d4fa363ff18482f3d", func := "github.com/google/go-jsonnet/n008_55.FnFodderConcatKeepsWellFormed", spec := "fnFodderConcatKeepsWellFormed", stops := ["fmt.Sprintf"], inPlace := ["fmt.Sprintf"], apart := false }
/-- NO THEOREM (fmt's text is open here; it may be false): for the released tool's asking of the row's closed facts alone. THE STATEMENT IS 'FnFodderConcatKeepsWellFormedToldSaid' (YtnagdbnfdedejaaFmtCards.lean). -/
def FnFodderConcatKeepsWellFormedFormAsk : Prop := fnFodderConcatKeepsWellFormedRow.holds Tryf.pinned (OpenSpec.ofChange fnFodderConcatKeepsWellFormedSpec)

/-- ITS FALSE NEIGHBOUR: 'it returns false'. Refute it at one input. -/
def fnFodderConcatKeepsWellFormedWrong : ChangeSpec := { name := "fnFodderConcatKeepsWellFormed", fn := fun _ => fun
  | [d1, d2] => { results := [.lit (.bool false)], args := [d1, d2] }
  | _ => none }
def FnFodderConcatKeepsWellFormedWrongFormAsk : Prop := fnFodderConcatKeepsWellFormedRow.holds Tryf.pinned (OpenSpec.ofChange fnFodderConcatKeepsWellFormedWrong)

end Rows
end Go.Proofs.YtnagdbnfdedejaaFmt
