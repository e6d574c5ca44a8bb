/-
  No cell of these rows narrows 'for every input' (looked for: loops, veiled, ifaces, maps, wideKeys, modest, calm, conditions, laid).
  DERIVED. THE GIVEN ROWS OF THIS SEAT. 2 by the template 'for every input the law returns true; each argument reads behind the call as it read before'; 0 by the template 'total and deterministic' (their statements: YtknddhjbhpchdaaFmtTotals.lean).
  GIVEN WITH THE SEED: the statements are not yours to turn. If you find one false, say at which input.
  Laid BY PROGRAM, IN A SANDBOX (cutbox-rows.mjs): the forced cells as the released guide's own fill.sh prints them over the translation 03f475faf4495c1f… (all of the seat's roots in one cut). By AI agents, Wed Nov 11 2026. No macro, syntax, notation, axiom, sorry.
-/
import Derived.Test.YtknddhjbhpchdaaFmtChecked
import GoSem.Claim
import GoSem.ClaimJoined
import GoSem.ClaimMapViews
import Derived.JoinedTies
import Derived.KernelRfl
namespace Go.Proofs.YtknddhjbhpchdaaFmt
/- THE CELL 'sum', in the pinned program and in every row, IS THE sha256 OF THE DUMP (.gsa) THAT YtknddhjbhpchdaaFmtProg.lean LOADS. Nothing in Lean hashes anything: it is a label: what it is worth is what the hold of that sum in a sandbox is worth. -/
noncomputable def Tryf.pinned : Pinned := { name := "ytknddhjbhpchdaafmt", sum := "03f475faf4495c1f2488fa325c317f1aa4bf7b41ffe02814f56fa42b3102d281", checked := Tryf.checked }
namespace Rows
def none {H : Type} : Left H := { results := [], args := [] }

/-- 'n008_33.FnMessageRangeInjective': WHATEVER THE INPUT: true; the input reads as it did. -/
def fnMessageRangeInjectiveSpec : ChangeSpec := { name := "fnMessageRangeInjective", fn := fun _ => fun
  | [d1, d2] => { results := [.lit (.bool true)], args := [d1, d2] }
  | _ => none }
def fnMessageRangeInjectiveRow : OpenClaim := { program := "ytknddhjbhpchdaafmt", sum := "03f475faf4495c1f2488fa325c317f1aa4bf7b41ffe02814f56fa42b3102d281", func := "github.com/google/go-jsonnet/n008_33.FnMessageRangeInjective", spec := "fnMessageRangeInjective", stops := ["fmt.Sprintf"], inPlace := ["fmt.Sprintf"], apart := false }
/-- NO THEOREM (fmt's text is open here; it may be false): for the released tool's asking of the row's closed facts alone. THE STATEMENT IS 'FnMessageRangeInjectiveToldSaid' (YtknddhjbhpchdaaFmtCards.lean). -/
def FnMessageRangeInjectiveFormAsk : Prop := fnMessageRangeInjectiveRow.holds Tryf.pinned (OpenSpec.ofChange fnMessageRangeInjectiveSpec)

/-- ITS FALSE NEIGHBOUR: 'it returns false'. Refute it at one input. -/
def fnMessageRangeInjectiveWrong : ChangeSpec := { name := "fnMessageRangeInjective", fn := fun _ => fun
  | [d1, d2] => { results := [.lit (.bool false)], args := [d1, d2] }
  | _ => none }
def FnMessageRangeInjectiveWrongFormAsk : Prop := fnMessageRangeInjectiveRow.holds Tryf.pinned (OpenSpec.ofChange fnMessageRangeInjectiveWrong)

/-- 'n008_33.FnMessageRangeIsEmptyRange': WHATEVER THE INPUT: true; the input reads as it did. -/
def fnMessageRangeIsEmptyRangeSpec : ChangeSpec := { name := "fnMessageRangeIsEmptyRange", fn := fun _ => fun
  | [d] => { results := [.lit (.bool true)], args := [d] }
  | _ => none }
def fnMessageRangeIsEmptyRangeRow : OpenClaim := { program := "ytknddhjbhpchdaafmt", sum := "03f475faf4495c1f2488fa325c317f1aa4bf7b41ffe02814f56fa42b3102d281", func := "github.com/google/go-jsonnet/n008_33.FnMessageRangeIsEmptyRange", spec := "fnMessageRangeIsEmptyRange", stops := ["fmt.Sprintf"], inPlace := ["fmt.Sprintf"], apart := false }
/-- NO THEOREM (fmt's text is open here; it may be false): for the released tool's asking of the row's closed facts alone. THE STATEMENT IS 'FnMessageRangeIsEmptyRangeToldSaid' (YtknddhjbhpchdaaFmtCards.lean). -/
def FnMessageRangeIsEmptyRangeFormAsk : Prop := fnMessageRangeIsEmptyRangeRow.holds Tryf.pinned (OpenSpec.ofChange fnMessageRangeIsEmptyRangeSpec)

/-- ITS FALSE NEIGHBOUR: 'it returns false'. Refute it at one input. -/
def fnMessageRangeIsEmptyRangeWrong : ChangeSpec := { name := "fnMessageRangeIsEmptyRange", fn := fun _ => fun
  | [d] => { results := [.lit (.bool false)], args := [d] }
  | _ => none }
def FnMessageRangeIsEmptyRangeWrongFormAsk : Prop := fnMessageRangeIsEmptyRangeRow.holds Tryf.pinned (OpenSpec.ofChange fnMessageRangeIsEmptyRangeWrong)

end Rows
end Go.Proofs.YtknddhjbhpchdaaFmt
