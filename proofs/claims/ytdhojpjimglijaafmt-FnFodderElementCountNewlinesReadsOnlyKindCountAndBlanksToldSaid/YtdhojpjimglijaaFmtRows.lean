/-
  No cell of these rows narrows 'for every input' (looked for: loops, veiled, ifaces, maps, wideKeys, modest, calm, conditions, laid).
  DERIVED. THE GIVEN ROWS OF THIS SEAT. 1 by the template 'for every input the law returns true; each argument reads behind the call as it read before'; 0 by the template 'total and deterministic' (their statements: YtdhojpjimglijaaFmtTotals.lean).
  GIVEN WITH THE SEED: the statements are not yours to turn. If you find one false, say at which input.
  Laid BY PROGRAM, IN A SANDBOX (cutbox-rows.mjs): the forced cells as the released guide's own fill.sh prints them over the translation bccc9134839e593d… (all of the seat's roots in one cut). By AI agents, Wed Nov 11 2026. No macro, syntax, notation, axiom, sorry.
-/
import Derived.Test.YtdhojpjimglijaaFmtChecked
import GoSem.Claim
import GoSem.ClaimJoined
import GoSem.ClaimMapViews
import Derived.JoinedTies
import Derived.KernelRfl
namespace Go.Proofs.YtdhojpjimglijaaFmt
/- THE CELL 'sum', in the pinned program and in every row, IS THE sha256 OF THE DUMP (.gsa) THAT YtdhojpjimglijaaFmtProg.lean LOADS. Nothing in Lean hashes anything: it is a label: what it is worth is what the hold of that sum in a sandbox is worth. -/
noncomputable def Tryf.pinned : Pinned := { name := "ytdhojpjimglijaafmt", sum := "bccc9134839e593d8dae2450b6576d2334531cf25b21310cee92d4718494dfc8", checked := Tryf.checked }
namespace Rows
def none {H : Type} : Left H := { results := [], args := [] }

/-- 'n008_167.FnFodderElementCountNewlinesReadsOnlyKindCountAndBlanks': WHATEVER THE INPUT: true; the input reads as it did. -/
def fnFodderElementCountNewlinesReadsOnlyKindCountAndBlanksSpec : ChangeSpec := { name := "fnFodderElementCountNewlinesReadsOnlyKindCountAndBlanks", fn := fun _ => fun
  | [d1, d2, d3, d4, d5] => { results := [.lit (.bool true)], args := [d1, d2, d3, d4, d5] }
  | _ => none }
def fnFodderElementCountNewlinesReadsOnlyKindCountAndBlanksRow : OpenClaim := { program := "ytdhojpjimglijaafmt", sum := "bccc9134839e593d8dae2450b6576d2334531cf25b21310cee92d4718494dfc8", func := "github.com/google/go-jsonnet/n008_167.FnFodderElementCountNewlinesReadsOnlyKindCountAndBlanks", spec := "fnFodderElementCountNewlinesReadsOnlyKindCountAndBlanks", stops := ["fmt.Sprintf"], inPlace := ["fmt.Sprintf"], apart := false }
/-- NO THEOREM (fmt's text is open here; it may be false): for the released tool's asking of the row's closed facts alone. THE STATEMENT IS 'FnFodderElementCountNewlinesReadsOnlyKindCountAndBlanksToldSaid' (YtdhojpjimglijaaFmtCards.lean). -/
def FnFodderElementCountNewlinesReadsOnlyKindCountAndBlanksFormAsk : Prop := fnFodderElementCountNewlinesReadsOnlyKindCountAndBlanksRow.holds Tryf.pinned (OpenSpec.ofChange fnFodderElementCountNewlinesReadsOnlyKindCountAndBlanksSpec)

/-- ITS FALSE NEIGHBOUR: 'it returns false'. Refute it at one input. -/
def fnFodderElementCountNewlinesReadsOnlyKindCountAndBlanksWrong : ChangeSpec := { name := "fnFodderElementCountNewlinesReadsOnlyKindCountAndBlanks", fn := fun _ => fun
  | [d1, d2, d3, d4, d5] => { results := [.lit (.bool false)], args := [d1, d2, d3, d4, d5] }
  | _ => none }
def FnFodderElementCountNewlinesReadsOnlyKindCountAndBlanksWrongFormAsk : Prop := fnFodderElementCountNewlinesReadsOnlyKindCountAndBlanksRow.holds Tryf.pinned (OpenSpec.ofChange fnFodderElementCountNewlinesReadsOnlyKindCountAndBlanksWrong)

end Rows
end Go.Proofs.YtdhojpjimglijaaFmt
