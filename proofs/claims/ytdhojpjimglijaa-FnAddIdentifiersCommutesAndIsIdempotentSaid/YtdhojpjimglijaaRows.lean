/-
  No cell of these rows narrows 'for every input' (looked for: loops, veiled, ifaces, maps, wideKeys, modest, calm, conditions, laid).
  DERIVED. THE GIVEN ROWS OF THIS SEAT. 4 by the template 'for every input the law returns true; each argument reads behind the call as it read before'; 0 by the template 'total and deterministic' (their statements: YtdhojpjimglijaaTotals.lean).
  GIVEN WITH THE SEED: the statements are not yours to turn. If you find one false, say at which input.
  Laid BY PROGRAM, IN A SANDBOX (cutbox-rows.mjs): the forced cells as the released guide's own fill.sh prints them over the translation 3823cc17366f051d… (all of the seat's roots in one cut). By AI agents, Wed Nov 11 2026. No macro, syntax, notation, axiom, sorry.
-/
import Derived.Test.YtdhojpjimglijaaChecked
import GoSem.Claim
import GoSem.ClaimJoined
import GoSem.ClaimMapViews
import Derived.JoinedTies
import Derived.KernelRfl
namespace Go.Proofs.Ytdhojpjimglijaa
/- THE CELL 'sum', in the pinned program and in every row, IS THE sha256 OF THE DUMP (.gsa) THAT YtdhojpjimglijaaProg.lean LOADS. Nothing in Lean hashes anything: it is a label: what it is worth is what the hold of that sum in a sandbox is worth. -/
noncomputable def Try.pinned : Pinned := { name := "ytdhojpjimglijaa", sum := "3823cc17366f051dadb3917675f4ca6b24bdc5d97834d3b1d7fc3e08df881101", checked := Try.checked }
namespace Rows
def none {H : Type} : Left H := { results := [], args := [] }

/-- 'n008_167.FnNewIdentifierSetIsSortedDistinct': WHATEVER THE INPUT: true; the input reads as it did. -/
def fnNewIdentifierSetIsSortedDistinctSpec : ChangeSpec := { name := "fnNewIdentifierSetIsSortedDistinct", fn := fun _ => fun
  | [d1, d2] => { results := [.lit (.bool true)], args := [d1, d2] }
  | _ => none }
def fnNewIdentifierSetIsSortedDistinctRow : OpenClaim := { program := "ytdhojpjimglijaa", sum := "3823cc17366f051dadb3917675f4ca6b24bdc5d97834d3b1d7fc3e08df881101", func := "github.com/google/go-jsonnet/n008_167.FnNewIdentifierSetIsSortedDistinct", spec := "fnNewIdentifierSetIsSortedDistinct", unfollowed := true, recurses := true, apart := false }
def FnNewIdentifierSetIsSortedDistinctSaid : Prop := fnNewIdentifierSetIsSortedDistinctRow.holds Try.pinned (OpenSpec.ofChange fnNewIdentifierSetIsSortedDistinctSpec)

/-- ITS FALSE NEIGHBOUR: 'it returns false'. Refute it at one input. -/
def fnNewIdentifierSetIsSortedDistinctWrong : ChangeSpec := { name := "fnNewIdentifierSetIsSortedDistinct", fn := fun _ => fun
  | [d1, d2] => { results := [.lit (.bool false)], args := [d1, d2] }
  | _ => none }
def FnNewIdentifierSetIsSortedDistinctWrongFalsely : Prop := fnNewIdentifierSetIsSortedDistinctRow.holds Try.pinned (OpenSpec.ofChange fnNewIdentifierSetIsSortedDistinctWrong)

/-- 'n008_167.FnAddIdentifiersIsUnion': WHATEVER THE INPUT: true; the input reads as it did. -/
def fnAddIdentifiersIsUnionSpec : ChangeSpec := { name := "fnAddIdentifiersIsUnion", fn := fun _ => fun
  | [d1, d2, d3] => { results := [.lit (.bool true)], args := [d1, d2, d3] }
  | _ => none }
def fnAddIdentifiersIsUnionRow : OpenClaim := { program := "ytdhojpjimglijaa", sum := "3823cc17366f051dadb3917675f4ca6b24bdc5d97834d3b1d7fc3e08df881101", func := "github.com/google/go-jsonnet/n008_167.FnAddIdentifiersIsUnion", spec := "fnAddIdentifiersIsUnion", unfollowed := true, recurses := true, apart := false }
def FnAddIdentifiersIsUnionSaid : Prop := fnAddIdentifiersIsUnionRow.holds Try.pinned (OpenSpec.ofChange fnAddIdentifiersIsUnionSpec)

/-- ITS FALSE NEIGHBOUR: 'it returns false'. Refute it at one input. -/
def fnAddIdentifiersIsUnionWrong : ChangeSpec := { name := "fnAddIdentifiersIsUnion", fn := fun _ => fun
  | [d1, d2, d3] => { results := [.lit (.bool false)], args := [d1, d2, d3] }
  | _ => none }
def FnAddIdentifiersIsUnionWrongFalsely : Prop := fnAddIdentifiersIsUnionRow.holds Try.pinned (OpenSpec.ofChange fnAddIdentifiersIsUnionWrong)

/-- 'n008_167.FnNewIdentifierSetIgnoresOrderAndRepeats': WHATEVER THE INPUT: true; the input reads as it did. -/
def fnNewIdentifierSetIgnoresOrderAndRepeatsSpec : ChangeSpec := { name := "fnNewIdentifierSetIgnoresOrderAndRepeats", fn := fun _ => fun
  | [d] => { results := [.lit (.bool true)], args := [d] }
  | _ => none }
def fnNewIdentifierSetIgnoresOrderAndRepeatsRow : OpenClaim := { program := "ytdhojpjimglijaa", sum := "3823cc17366f051dadb3917675f4ca6b24bdc5d97834d3b1d7fc3e08df881101", func := "github.com/google/go-jsonnet/n008_167.FnNewIdentifierSetIgnoresOrderAndRepeats", spec := "fnNewIdentifierSetIgnoresOrderAndRepeats", unfollowed := true, recurses := true, apart := false }
def FnNewIdentifierSetIgnoresOrderAndRepeatsSaid : Prop := fnNewIdentifierSetIgnoresOrderAndRepeatsRow.holds Try.pinned (OpenSpec.ofChange fnNewIdentifierSetIgnoresOrderAndRepeatsSpec)

/-- ITS FALSE NEIGHBOUR: 'it returns false'. Refute it at one input. -/
def fnNewIdentifierSetIgnoresOrderAndRepeatsWrong : ChangeSpec := { name := "fnNewIdentifierSetIgnoresOrderAndRepeats", fn := fun _ => fun
  | [d] => { results := [.lit (.bool false)], args := [d] }
  | _ => none }
def FnNewIdentifierSetIgnoresOrderAndRepeatsWrongFalsely : Prop := fnNewIdentifierSetIgnoresOrderAndRepeatsRow.holds Try.pinned (OpenSpec.ofChange fnNewIdentifierSetIgnoresOrderAndRepeatsWrong)

/-- 'n008_167.FnAddIdentifiersCommutesAndIsIdempotent': WHATEVER THE INPUT: true; the input reads as it did. -/
def fnAddIdentifiersCommutesAndIsIdempotentSpec : ChangeSpec := { name := "fnAddIdentifiersCommutesAndIsIdempotent", fn := fun _ => fun
  | [d1, d2] => { results := [.lit (.bool true)], args := [d1, d2] }
  | _ => none }
def fnAddIdentifiersCommutesAndIsIdempotentRow : OpenClaim := { program := "ytdhojpjimglijaa", sum := "3823cc17366f051dadb3917675f4ca6b24bdc5d97834d3b1d7fc3e08df881101", func := "github.com/google/go-jsonnet/n008_167.FnAddIdentifiersCommutesAndIsIdempotent", spec := "fnAddIdentifiersCommutesAndIsIdempotent", unfollowed := true, recurses := true, apart := false }
def FnAddIdentifiersCommutesAndIsIdempotentSaid : Prop := fnAddIdentifiersCommutesAndIsIdempotentRow.holds Try.pinned (OpenSpec.ofChange fnAddIdentifiersCommutesAndIsIdempotentSpec)

/-- ITS FALSE NEIGHBOUR: 'it returns false'. Refute it at one input. -/
def fnAddIdentifiersCommutesAndIsIdempotentWrong : ChangeSpec := { name := "fnAddIdentifiersCommutesAndIsIdempotent", fn := fun _ => fun
  | [d1, d2] => { results := [.lit (.bool false)], args := [d1, d2] }
  | _ => none }
def FnAddIdentifiersCommutesAndIsIdempotentWrongFalsely : Prop := fnAddIdentifiersCommutesAndIsIdempotentRow.holds Try.pinned (OpenSpec.ofChange fnAddIdentifiersCommutesAndIsIdempotentWrong)

/- THE SECOND FORM. 'bulk': how many values and letters a reading holds, each counted each time it is reached (what is shared counts as often as it is met; a slice's spare places count too). A statement '..UptoSaid' is the law's where the arguments, and the package variables that the reading takes, are together of bulk at most 1048576: NARROWER than '..Said'. Prove '..Said' where nothing that the law and all that it calls make is longer than what came in: it says more and counts as full. Else prove '..UptoSaid'. A law counts once. -/
mutual
def uptoBulk {H : Type} : DataW H → Nat
  | .lit (.string bytes) => bytes.length + 1
  | .lit _ => 1
  | .nil => 1
  | .ptr d => uptoBulk d + 1
  | .slice elems spare => uptoBulkAll elems + uptoBulkAll spare + 1
  | .agg parts => uptoBulkAll parts + 1
  | .iface _ d => uptoBulk d + 1
  | .map entries => uptoBulkEntries entries + 1
  | .held _ => 1
def uptoBulkAll {H : Type} : List (DataW H) → Nat
  | [] => 0
  | d :: r => uptoBulk d + uptoBulkAll r
def uptoBulkEntries {H : Type} : List (Lit × DataW H) → Nat
  | [] => 0
  | x :: r => uptoBulkEntry x + uptoBulkEntries r
def uptoBulkEntry {H : Type} : Lit × DataW H → Nat
  | (.string bytes, d) => bytes.length + uptoBulk d + 1
  | (_, d) => uptoBulk d + 1
 end
def uptoSmall : (H : Type) → List (DataW H) → Bool := fun _ ds => decide (uptoBulkAll ds ≤ 1048576)
def OpenSpec.upto (s : _root_.Go.ChangeSpec) : _root_.Go.OpenSpec := { _root_.Go.OpenSpec.ofChange s with cond := some uptoSmall }

/-- 'n008_167.FnNewIdentifierSetIsSortedDistinct', WHERE WHAT IT READS IS OF BULK AT MOST 1048576: true; the input reads as it did. -/
def fnNewIdentifierSetIsSortedDistinctUptoRow : OpenClaim := { program := "ytdhojpjimglijaa", sum := "3823cc17366f051dadb3917675f4ca6b24bdc5d97834d3b1d7fc3e08df881101", func := "github.com/google/go-jsonnet/n008_167.FnNewIdentifierSetIsSortedDistinct", spec := "fnNewIdentifierSetIsSortedDistinct", unfollowed := true, recurses := true, apart := false, narrowed := true }
def FnNewIdentifierSetIsSortedDistinctUptoSaid : Prop := fnNewIdentifierSetIsSortedDistinctUptoRow.holds Try.pinned (OpenSpec.upto fnNewIdentifierSetIsSortedDistinctSpec)

/-- 'n008_167.FnAddIdentifiersIsUnion', WHERE WHAT IT READS IS OF BULK AT MOST 1048576: true; the input reads as it did. -/
def fnAddIdentifiersIsUnionUptoRow : OpenClaim := { program := "ytdhojpjimglijaa", sum := "3823cc17366f051dadb3917675f4ca6b24bdc5d97834d3b1d7fc3e08df881101", func := "github.com/google/go-jsonnet/n008_167.FnAddIdentifiersIsUnion", spec := "fnAddIdentifiersIsUnion", unfollowed := true, recurses := true, apart := false, narrowed := true }
def FnAddIdentifiersIsUnionUptoSaid : Prop := fnAddIdentifiersIsUnionUptoRow.holds Try.pinned (OpenSpec.upto fnAddIdentifiersIsUnionSpec)

/-- 'n008_167.FnNewIdentifierSetIgnoresOrderAndRepeats', WHERE WHAT IT READS IS OF BULK AT MOST 1048576: true; the input reads as it did. -/
def fnNewIdentifierSetIgnoresOrderAndRepeatsUptoRow : OpenClaim := { program := "ytdhojpjimglijaa", sum := "3823cc17366f051dadb3917675f4ca6b24bdc5d97834d3b1d7fc3e08df881101", func := "github.com/google/go-jsonnet/n008_167.FnNewIdentifierSetIgnoresOrderAndRepeats", spec := "fnNewIdentifierSetIgnoresOrderAndRepeats", unfollowed := true, recurses := true, apart := false, narrowed := true }
def FnNewIdentifierSetIgnoresOrderAndRepeatsUptoSaid : Prop := fnNewIdentifierSetIgnoresOrderAndRepeatsUptoRow.holds Try.pinned (OpenSpec.upto fnNewIdentifierSetIgnoresOrderAndRepeatsSpec)

/-- 'n008_167.FnAddIdentifiersCommutesAndIsIdempotent', WHERE WHAT IT READS IS OF BULK AT MOST 1048576: true; the input reads as it did. -/
def fnAddIdentifiersCommutesAndIsIdempotentUptoRow : OpenClaim := { program := "ytdhojpjimglijaa", sum := "3823cc17366f051dadb3917675f4ca6b24bdc5d97834d3b1d7fc3e08df881101", func := "github.com/google/go-jsonnet/n008_167.FnAddIdentifiersCommutesAndIsIdempotent", spec := "fnAddIdentifiersCommutesAndIsIdempotent", unfollowed := true, recurses := true, apart := false, narrowed := true }
def FnAddIdentifiersCommutesAndIsIdempotentUptoSaid : Prop := fnAddIdentifiersCommutesAndIsIdempotentUptoRow.holds Try.pinned (OpenSpec.upto fnAddIdentifiersCommutesAndIsIdempotentSpec)

end Rows
end Go.Proofs.Ytdhojpjimglijaa
