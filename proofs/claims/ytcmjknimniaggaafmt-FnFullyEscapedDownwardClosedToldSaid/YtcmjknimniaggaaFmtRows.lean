/-
  No cell of these rows narrows 'for every input' (looked for: loops, veiled, ifaces, maps, wideKeys, modest, calm, conditions, laid).
  DERIVED. THE GIVEN ROWS OF THIS SEAT. 2 by the template 'for every input the law returns true; each argument reads behind the call as it read before'; 0 by the template 'total and deterministic' (their statements: YtcmjknimniaggaaFmtTotals.lean).
  GIVEN WITH THE SEED: the statements are not yours to turn. If you find one false, say at which input.
  Laid BY PROGRAM, IN A SANDBOX (cutbox-rows.mjs): the forced cells as the released guide's own fill.sh prints them over the translation da4fd3e0c98f515e… (all of the seat's roots in one cut). By AI agents, Wed Nov 11 2026. No macro, syntax, notation, axiom, sorry.
-/
import Derived.Test.YtcmjknimniaggaaFmtChecked
import GoSem.Claim
import GoSem.ClaimJoined
import GoSem.ClaimMapViews
import Derived.JoinedTies
import Derived.KernelRfl
namespace Go.Proofs.YtcmjknimniaggaaFmt
/- THE CELL 'sum', in the pinned program and in every row, IS THE sha256 OF THE DUMP (.gsa) THAT YtcmjknimniaggaaFmtProg.lean LOADS. Nothing in Lean hashes anything: it is a label: what it is worth is what the hold of that sum in a sandbox is worth. -/
noncomputable def Tryf.pinned : Pinned := { name := "ytcmjknimniaggaafmt", sum := "da4fd3e0c98f515e2ee50701cd79035f319e7d5659980cdfd0af782916944fb1", checked := Tryf.checked }
namespace Rows
def none {H : Type} : Left H := { results := [], args := [] }

/-- 'n008_165.FnFullyEscapedExactlyQuotedKinds': WHATEVER THE INPUT: true; the input reads as it did. -/
def fnFullyEscapedExactlyQuotedKindsSpec : ChangeSpec := { name := "fnFullyEscapedExactlyQuotedKinds", fn := fun _ => fun
  | [d] => { results := [.lit (.bool true)], args := [d] }
  | _ => none }
def fnFullyEscapedExactlyQuotedKindsRow : OpenClaim := { program := "ytcmjknimniaggaafmt", sum := "da4fd3e0c98f515e2ee50701cd79035f319e7d5659980cdfd0af782916944fb1", func := "github.com/google/go-jsonnet/n008_165.FnFullyEscapedExactlyQuotedKinds", spec := "fnFullyEscapedExactlyQuotedKinds", stops := ["fmt.Sprintf"], inPlace := ["fmt.Sprintf"], apart := false }
/-- NO THEOREM (fmt's text is open here; it may be false): for the released tool's asking of the row's closed facts alone. THE STATEMENT IS 'FnFullyEscapedExactlyQuotedKindsToldSaid' (YtcmjknimniaggaaFmtCards.lean). -/
def FnFullyEscapedExactlyQuotedKindsFormAsk : Prop := fnFullyEscapedExactlyQuotedKindsRow.holds Tryf.pinned (OpenSpec.ofChange fnFullyEscapedExactlyQuotedKindsSpec)

/-- ITS FALSE NEIGHBOUR: 'it returns false'. Refute it at one input. -/
def fnFullyEscapedExactlyQuotedKindsWrong : ChangeSpec := { name := "fnFullyEscapedExactlyQuotedKinds", fn := fun _ => fun
  | [d] => { results := [.lit (.bool false)], args := [d] }
  | _ => none }
def FnFullyEscapedExactlyQuotedKindsWrongFormAsk : Prop := fnFullyEscapedExactlyQuotedKindsRow.holds Tryf.pinned (OpenSpec.ofChange fnFullyEscapedExactlyQuotedKindsWrong)

/-- 'n008_165.FnFullyEscapedDownwardClosed': WHATEVER THE INPUT: true; the input reads as it did. -/
def fnFullyEscapedDownwardClosedSpec : ChangeSpec := { name := "fnFullyEscapedDownwardClosed", fn := fun _ => fun
  | [d1, d2] => { results := [.lit (.bool true)], args := [d1, d2] }
  | _ => none }
def fnFullyEscapedDownwardClosedRow : OpenClaim := { program := "ytcmjknimniaggaafmt", sum := "da4fd3e0c98f515e2ee50701cd79035f319e7d5659980cdfd0af782916944fb1", func := "github.com/google/go-jsonnet/n008_165.FnFullyEscapedDownwardClosed", spec := "fnFullyEscapedDownwardClosed", stops := ["fmt.Sprintf"], inPlace := ["fmt.Sprintf"], apart := false }
/-- NO THEOREM (fmt's text is open here; it may be false): for the released tool's asking of the row's closed facts alone. THE STATEMENT IS 'FnFullyEscapedDownwardClosedToldSaid' (YtcmjknimniaggaaFmtCards.lean). -/
def FnFullyEscapedDownwardClosedFormAsk : Prop := fnFullyEscapedDownwardClosedRow.holds Tryf.pinned (OpenSpec.ofChange fnFullyEscapedDownwardClosedSpec)

/-- ITS FALSE NEIGHBOUR: 'it returns false'. Refute it at one input. -/
def fnFullyEscapedDownwardClosedWrong : ChangeSpec := { name := "fnFullyEscapedDownwardClosed", fn := fun _ => fun
  | [d1, d2] => { results := [.lit (.bool false)], args := [d1, d2] }
  | _ => none }
def FnFullyEscapedDownwardClosedWrongFormAsk : Prop := fnFullyEscapedDownwardClosedRow.holds Tryf.pinned (OpenSpec.ofChange fnFullyEscapedDownwardClosedWrong)

end Rows
end Go.Proofs.YtcmjknimniaggaaFmt
