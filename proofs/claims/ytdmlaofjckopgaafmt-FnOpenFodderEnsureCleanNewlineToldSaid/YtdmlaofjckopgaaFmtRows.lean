/-
  No cell of these rows narrows 'for every input' (looked for: loops, veiled, ifaces, maps, wideKeys, modest, calm, conditions, laid).
  DERIVED. THE GIVEN ROWS OF THIS SEAT. 1 by the template 'for every input the law returns true; each argument reads behind the call as it read before'; 0 by the template 'total and deterministic' (their statements: YtdmlaofjckopgaaFmtTotals.lean).
  GIVEN WITH THE SEED: the statements are not yours to turn. If you find one false, say at which input.
  Laid BY PROGRAM, IN A SANDBOX (cutbox-rows.mjs): the forced cells as the released guide's own fill.sh prints them over the translation a8d4aa10c7aec6bc… (all of the seat's roots in one cut). By AI agents, Wed Nov 11 2026. No macro, syntax, notation, axiom, sorry.
-/
import Derived.Test.YtdmlaofjckopgaaFmtChecked
import GoSem.Claim
import GoSem.ClaimJoined
import GoSem.ClaimMapViews
import Derived.JoinedTies
import Derived.KernelRfl
namespace Go.Proofs.YtdmlaofjckopgaaFmt
/- THE CELL 'sum', in the pinned program and in every row, IS THE sha256 OF THE DUMP (.gsa) THAT YtdmlaofjckopgaaFmtProg.lean LOADS. Nothing in Lean hashes anything: it is a label: what it is worth is what the hold of that sum in a sandbox is worth. -/
noncomputable def Tryf.pinned : Pinned := { name := "ytdmlaofjckopgaafmt", sum := "a8d4aa10c7aec6bcb6c69e4b3c4c22df3cbb3fc93430560aa8965e457b7715ac", checked := Tryf.checked }
namespace Rows
def none {H : Type} : Left H := { results := [], args := [] }

/-- 'n008_25.FnOpenFodderEnsureCleanNewline': WHATEVER THE INPUT: true; the input reads as it did. -/
def fnOpenFodderEnsureCleanNewlineSpec : ChangeSpec := { name := "fnOpenFodderEnsureCleanNewline", fn := fun _ => fun
  | [d] => { results := [.lit (.bool true)], args := [d] }
  | _ => none }
def fnOpenFodderEnsureCleanNewlineRow : OpenClaim := { program := "ytdmlaofjckopgaafmt", sum := "a8d4aa10c7aec6bcb6c69e4b3c4c22df3cbb3fc93430560aa8965e457b7715ac", func := "github.com/google/go-jsonnet/n008_25.FnOpenFodderEnsureCleanNewline", spec := "fnOpenFodderEnsureCleanNewline", stops := ["fmt.Sprintf"], inPlace := ["fmt.Sprintf"], apart := false }
/-- NO THEOREM (fmt's text is open here; it may be false): for the released tool's asking of the row's closed facts alone. THE STATEMENT IS 'FnOpenFodderEnsureCleanNewlineToldSaid' (YtdmlaofjckopgaaFmtCards.lean). -/
def FnOpenFodderEnsureCleanNewlineFormAsk : Prop := fnOpenFodderEnsureCleanNewlineRow.holds Tryf.pinned (OpenSpec.ofChange fnOpenFodderEnsureCleanNewlineSpec)

/-- ITS FALSE NEIGHBOUR: 'it returns false'. Refute it at one input. -/
def fnOpenFodderEnsureCleanNewlineWrong : ChangeSpec := { name := "fnOpenFodderEnsureCleanNewline", fn := fun _ => fun
  | [d] => { results := [.lit (.bool false)], args := [d] }
  | _ => none }
def FnOpenFodderEnsureCleanNewlineWrongFormAsk : Prop := fnOpenFodderEnsureCleanNewlineRow.holds Tryf.pinned (OpenSpec.ofChange fnOpenFodderEnsureCleanNewlineWrong)

end Rows
end Go.Proofs.YtdmlaofjckopgaaFmt
