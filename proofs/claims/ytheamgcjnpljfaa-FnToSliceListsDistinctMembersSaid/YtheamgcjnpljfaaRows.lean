/-
  No cell of these rows narrows 'for every input' (looked for: loops, veiled, ifaces, maps, wideKeys, modest, calm, conditions, laid).
  DERIVED. THE GIVEN ROWS OF THIS SEAT. 7 by the template 'for every input the law returns true; each argument reads behind the call as it read before'; 0 by the template 'total and deterministic' (their statements: YtheamgcjnpljfaaTotals.lean).
  GIVEN WITH THE SEED: the statements are not yours to turn. If you find one false, say at which input.
  Laid BY PROGRAM, IN A SANDBOX (cutbox-rows.mjs): the forced cells as the released guide's own fill.sh prints them over the translation 1c1c683a56b06ee8… (all of the seat's roots in one cut). By AI agents, Wed Nov 11 2026. No macro, syntax, notation, axiom, sorry.
-/
import Derived.Test.YtheamgcjnpljfaaChecked
import GoSem.Claim
import GoSem.ClaimJoined
import GoSem.ClaimMapViews
import Derived.JoinedTies
import Derived.KernelRfl
namespace Go.Proofs.Ytheamgcjnpljfaa
/- THE CELL 'sum', in the pinned program and in every row, IS THE sha256 OF THE DUMP (.gsa) THAT YtheamgcjnpljfaaProg.lean LOADS. Nothing in Lean hashes anything: it is a label: what it is worth is what the hold of that sum in a sandbox is worth. -/
noncomputable def Try.pinned : Pinned := { name := "ytheamgcjnpljfaa", sum := "1c1c683a56b06ee831ed83e555caeb0526f08f035e14db63f8b3954a89a6bc91", checked := Try.checked }
namespace Rows
def none {H : Type} : Left H := { results := [], args := [] }

/-- 'n008_6.FnTrimToLineLastLineIsLineBeginning': WHATEVER THE INPUT: true; the input reads as it did. -/
def fnTrimToLineLastLineIsLineBeginningSpec : ChangeSpec := { name := "fnTrimToLineLastLineIsLineBeginning", fn := fun _ => fun
  | [d1, d2, d3, d4, d5, d6] => { results := [.lit (.bool true)], args := [d1, d2, d3, d4, d5, d6] }
  | _ => none }
def fnTrimToLineLastLineIsLineBeginningRow : OpenClaim := { program := "ytheamgcjnpljfaa", sum := "1c1c683a56b06ee831ed83e555caeb0526f08f035e14db63f8b3954a89a6bc91", func := "github.com/google/go-jsonnet/n008_6.FnTrimToLineLastLineIsLineBeginning", spec := "fnTrimToLineLastLineIsLineBeginning", apart := false }
def FnTrimToLineLastLineIsLineBeginningSaid : Prop := fnTrimToLineLastLineIsLineBeginningRow.holds Try.pinned (OpenSpec.ofChange fnTrimToLineLastLineIsLineBeginningSpec)

/-- ITS FALSE NEIGHBOUR: 'it returns false'. Refute it at one input. -/
def fnTrimToLineLastLineIsLineBeginningWrong : ChangeSpec := { name := "fnTrimToLineLastLineIsLineBeginning", fn := fun _ => fun
  | [d1, d2, d3, d4, d5, d6] => { results := [.lit (.bool false)], args := [d1, d2, d3, d4, d5, d6] }
  | _ => none }
def FnTrimToLineLastLineIsLineBeginningWrongFalsely : Prop := fnTrimToLineLastLineIsLineBeginningRow.holds Try.pinned (OpenSpec.ofChange fnTrimToLineLastLineIsLineBeginningWrong)

/-- 'n008_6.FnTrimToLineFirstLineIsLineEnding': WHATEVER THE INPUT: true; the input reads as it did. -/
def fnTrimToLineFirstLineIsLineEndingSpec : ChangeSpec := { name := "fnTrimToLineFirstLineIsLineEnding", fn := fun _ => fun
  | [d1, d2, d3, d4, d5, d6] => { results := [.lit (.bool true)], args := [d1, d2, d3, d4, d5, d6] }
  | _ => none }
def fnTrimToLineFirstLineIsLineEndingRow : OpenClaim := { program := "ytheamgcjnpljfaa", sum := "1c1c683a56b06ee831ed83e555caeb0526f08f035e14db63f8b3954a89a6bc91", func := "github.com/google/go-jsonnet/n008_6.FnTrimToLineFirstLineIsLineEnding", spec := "fnTrimToLineFirstLineIsLineEnding", apart := false }
def FnTrimToLineFirstLineIsLineEndingSaid : Prop := fnTrimToLineFirstLineIsLineEndingRow.holds Try.pinned (OpenSpec.ofChange fnTrimToLineFirstLineIsLineEndingSpec)

/-- ITS FALSE NEIGHBOUR: 'it returns false'. Refute it at one input. -/
def fnTrimToLineFirstLineIsLineEndingWrong : ChangeSpec := { name := "fnTrimToLineFirstLineIsLineEnding", fn := fun _ => fun
  | [d1, d2, d3, d4, d5, d6] => { results := [.lit (.bool false)], args := [d1, d2, d3, d4, d5, d6] }
  | _ => none }
def FnTrimToLineFirstLineIsLineEndingWrongFalsely : Prop := fnTrimToLineFirstLineIsLineEndingRow.holds Try.pinned (OpenSpec.ofChange fnTrimToLineFirstLineIsLineEndingWrong)

/-- 'n008_6.FnLinePiecesAreFixedByTrimToLine': WHATEVER THE INPUT: true; the input reads as it did. -/
def fnLinePiecesAreFixedByTrimToLineSpec : ChangeSpec := { name := "fnLinePiecesAreFixedByTrimToLine", fn := fun _ => fun
  | [d1, d2, d3, d4, d5, d6] => { results := [.lit (.bool true)], args := [d1, d2, d3, d4, d5, d6] }
  | _ => none }
def fnLinePiecesAreFixedByTrimToLineRow : OpenClaim := { program := "ytheamgcjnpljfaa", sum := "1c1c683a56b06ee831ed83e555caeb0526f08f035e14db63f8b3954a89a6bc91", func := "github.com/google/go-jsonnet/n008_6.FnLinePiecesAreFixedByTrimToLine", spec := "fnLinePiecesAreFixedByTrimToLine", apart := false }
def FnLinePiecesAreFixedByTrimToLineSaid : Prop := fnLinePiecesAreFixedByTrimToLineRow.holds Try.pinned (OpenSpec.ofChange fnLinePiecesAreFixedByTrimToLineSpec)

/-- ITS FALSE NEIGHBOUR: 'it returns false'. Refute it at one input. -/
def fnLinePiecesAreFixedByTrimToLineWrong : ChangeSpec := { name := "fnLinePiecesAreFixedByTrimToLine", fn := fun _ => fun
  | [d1, d2, d3, d4, d5, d6] => { results := [.lit (.bool false)], args := [d1, d2, d3, d4, d5, d6] }
  | _ => none }
def FnLinePiecesAreFixedByTrimToLineWrongFalsely : Prop := fnLinePiecesAreFixedByTrimToLineRow.holds Try.pinned (OpenSpec.ofChange fnLinePiecesAreFixedByTrimToLineWrong)

/-- 'n008_6.FnLineBeginningAndEndingCompose': WHATEVER THE INPUT: true; the input reads as it did. -/
def fnLineBeginningAndEndingComposeSpec : ChangeSpec := { name := "fnLineBeginningAndEndingCompose", fn := fun _ => fun
  | [d1, d2, d3, d4, d5, d6] => { results := [.lit (.bool true)], args := [d1, d2, d3, d4, d5, d6] }
  | _ => none }
def fnLineBeginningAndEndingComposeRow : OpenClaim := { program := "ytheamgcjnpljfaa", sum := "1c1c683a56b06ee831ed83e555caeb0526f08f035e14db63f8b3954a89a6bc91", func := "github.com/google/go-jsonnet/n008_6.FnLineBeginningAndEndingCompose", spec := "fnLineBeginningAndEndingCompose", apart := false }
def FnLineBeginningAndEndingComposeSaid : Prop := fnLineBeginningAndEndingComposeRow.holds Try.pinned (OpenSpec.ofChange fnLineBeginningAndEndingComposeSpec)

/-- ITS FALSE NEIGHBOUR: 'it returns false'. Refute it at one input. -/
def fnLineBeginningAndEndingComposeWrong : ChangeSpec := { name := "fnLineBeginningAndEndingCompose", fn := fun _ => fun
  | [d1, d2, d3, d4, d5, d6] => { results := [.lit (.bool false)], args := [d1, d2, d3, d4, d5, d6] }
  | _ => none }
def FnLineBeginningAndEndingComposeWrongFalsely : Prop := fnLineBeginningAndEndingComposeRow.holds Try.pinned (OpenSpec.ofChange fnLineBeginningAndEndingComposeWrong)

/-- 'n008_6.FnToSliceListsDistinctMembers': WHATEVER THE INPUT: true; the input reads as it did. -/
def fnToSliceListsDistinctMembersSpec : ChangeSpec := { name := "fnToSliceListsDistinctMembers", fn := fun _ => fun
  | [d] => { results := [.lit (.bool true)], args := [d] }
  | _ => none }
def fnToSliceListsDistinctMembersRow : OpenClaim := { program := "ytheamgcjnpljfaa", sum := "1c1c683a56b06ee831ed83e555caeb0526f08f035e14db63f8b3954a89a6bc91", func := "github.com/google/go-jsonnet/n008_6.FnToSliceListsDistinctMembers", spec := "fnToSliceListsDistinctMembers", recurses := true, apart := false }
def FnToSliceListsDistinctMembersSaid : Prop := fnToSliceListsDistinctMembersRow.holds Try.pinned (OpenSpec.ofChange fnToSliceListsDistinctMembersSpec)

/-- ITS FALSE NEIGHBOUR: 'it returns false'. Refute it at one input. -/
def fnToSliceListsDistinctMembersWrong : ChangeSpec := { name := "fnToSliceListsDistinctMembers", fn := fun _ => fun
  | [d] => { results := [.lit (.bool false)], args := [d] }
  | _ => none }
def FnToSliceListsDistinctMembersWrongFalsely : Prop := fnToSliceListsDistinctMembersRow.holds Try.pinned (OpenSpec.ofChange fnToSliceListsDistinctMembersWrong)

/-- 'n008_6.FnTrimToLineIdempotent': WHATEVER THE INPUT: true; the input reads as it did. -/
def fnTrimToLineIdempotentSpec : ChangeSpec := { name := "fnTrimToLineIdempotent", fn := fun _ => fun
  | [d1, d2, d3, d4, d5, d6, d7] => { results := [.lit (.bool true)], args := [d1, d2, d3, d4, d5, d6, d7] }
  | _ => none }
def fnTrimToLineIdempotentRow : OpenClaim := { program := "ytheamgcjnpljfaa", sum := "1c1c683a56b06ee831ed83e555caeb0526f08f035e14db63f8b3954a89a6bc91", func := "github.com/google/go-jsonnet/n008_6.FnTrimToLineIdempotent", spec := "fnTrimToLineIdempotent", apart := false }
def FnTrimToLineIdempotentSaid : Prop := fnTrimToLineIdempotentRow.holds Try.pinned (OpenSpec.ofChange fnTrimToLineIdempotentSpec)

/-- ITS FALSE NEIGHBOUR: 'it returns false'. Refute it at one input. -/
def fnTrimToLineIdempotentWrong : ChangeSpec := { name := "fnTrimToLineIdempotent", fn := fun _ => fun
  | [d1, d2, d3, d4, d5, d6, d7] => { results := [.lit (.bool false)], args := [d1, d2, d3, d4, d5, d6, d7] }
  | _ => none }
def FnTrimToLineIdempotentWrongFalsely : Prop := fnTrimToLineIdempotentRow.holds Try.pinned (OpenSpec.ofChange fnTrimToLineIdempotentWrong)

/-- 'n008_6.FnToSliceAgreesWithAddCount': WHATEVER THE INPUT: true; the input reads as it did. -/
def fnToSliceAgreesWithAddCountSpec : ChangeSpec := { name := "fnToSliceAgreesWithAddCount", fn := fun _ => fun
  | [d] => { results := [.lit (.bool true)], args := [d] }
  | _ => none }
def fnToSliceAgreesWithAddCountRow : OpenClaim := { program := "ytheamgcjnpljfaa", sum := "1c1c683a56b06ee831ed83e555caeb0526f08f035e14db63f8b3954a89a6bc91", func := "github.com/google/go-jsonnet/n008_6.FnToSliceAgreesWithAddCount", spec := "fnToSliceAgreesWithAddCount", apart := false }
def FnToSliceAgreesWithAddCountSaid : Prop := fnToSliceAgreesWithAddCountRow.holds Try.pinned (OpenSpec.ofChange fnToSliceAgreesWithAddCountSpec)

/-- ITS FALSE NEIGHBOUR: 'it returns false'. Refute it at one input. -/
def fnToSliceAgreesWithAddCountWrong : ChangeSpec := { name := "fnToSliceAgreesWithAddCount", fn := fun _ => fun
  | [d] => { results := [.lit (.bool false)], args := [d] }
  | _ => none }
def FnToSliceAgreesWithAddCountWrongFalsely : Prop := fnToSliceAgreesWithAddCountRow.holds Try.pinned (OpenSpec.ofChange fnToSliceAgreesWithAddCountWrong)

/- THE SECOND FORM. 'bulk': how many values and letters a reading holds, each counted each time it is reached (what is shared counts as often as it is met; a slice's spare places count too). A statement '..UptoSaid' is the law's where the arguments, and the package variables that the reading takes, are together of bulk at most 1048576: NARROWER than '..Said'. Prove '..Said' where nothing that the law and all that it calls make is longer than what came in: it says more and counts as full. Else prove '..UptoSaid'. A law counts once. -/
mutual
def uptoBulk {H : Type} : DataW H → Nat
  | .lit (.string bytes) => bytes.length + 1
  | .lit _ => 1
  | .nil => 1
  | .ptr d => uptoBulk d + 1
  | .slice elems spare => uptoBulkAll elems + uptoBulkAll spare + 1
  | .agg parts => uptoBulkAll parts + 1
  | .iface _ d => uptoBulk d + 1
  | .map entries => uptoBulkEntries entries + 1
  | .held _ => 1
def uptoBulkAll {H : Type} : List (DataW H) → Nat
  | [] => 0
  | d :: r => uptoBulk d + uptoBulkAll r
def uptoBulkEntries {H : Type} : List (Lit × DataW H) → Nat
  | [] => 0
  | x :: r => uptoBulkEntry x + uptoBulkEntries r
def uptoBulkEntry {H : Type} : Lit × DataW H → Nat
  | (.string bytes, d) => bytes.length + uptoBulk d + 1
  | (_, d) => uptoBulk d + 1
 end
def uptoSmall : (H : Type) → List (DataW H) → Bool := fun _ ds => decide (uptoBulkAll ds ≤ 1048576)
def OpenSpec.upto (s : _root_.Go.ChangeSpec) : _root_.Go.OpenSpec := { _root_.Go.OpenSpec.ofChange s with cond := some uptoSmall }

/-- 'n008_6.FnTrimToLineLastLineIsLineBeginning', WHERE WHAT IT READS IS OF BULK AT MOST 1048576: true; the input reads as it did. -/
def fnTrimToLineLastLineIsLineBeginningUptoRow : OpenClaim := { program := "ytheamgcjnpljfaa", sum := "1c1c683a56b06ee831ed83e555caeb0526f08f035e14db63f8b3954a89a6bc91", func := "github.com/google/go-jsonnet/n008_6.FnTrimToLineLastLineIsLineBeginning", spec := "fnTrimToLineLastLineIsLineBeginning", apart := false, narrowed := true }
def FnTrimToLineLastLineIsLineBeginningUptoSaid : Prop := fnTrimToLineLastLineIsLineBeginningUptoRow.holds Try.pinned (OpenSpec.upto fnTrimToLineLastLineIsLineBeginningSpec)

/-- 'n008_6.FnTrimToLineFirstLineIsLineEnding', WHERE WHAT IT READS IS OF BULK AT MOST 1048576: true; the input reads as it did. -/
def fnTrimToLineFirstLineIsLineEndingUptoRow : OpenClaim := { program := "ytheamgcjnpljfaa", sum := "1c1c683a56b06ee831ed83e555caeb0526f08f035e14db63f8b3954a89a6bc91", func := "github.com/google/go-jsonnet/n008_6.FnTrimToLineFirstLineIsLineEnding", spec := "fnTrimToLineFirstLineIsLineEnding", apart := false, narrowed := true }
def FnTrimToLineFirstLineIsLineEndingUptoSaid : Prop := fnTrimToLineFirstLineIsLineEndingUptoRow.holds Try.pinned (OpenSpec.upto fnTrimToLineFirstLineIsLineEndingSpec)

/-- 'n008_6.FnLinePiecesAreFixedByTrimToLine', WHERE WHAT IT READS IS OF BULK AT MOST 1048576: true; the input reads as it did. -/
def fnLinePiecesAreFixedByTrimToLineUptoRow : OpenClaim := { program := "ytheamgcjnpljfaa", sum := "1c1c683a56b06ee831ed83e555caeb0526f08f035e14db63f8b3954a89a6bc91", func := "github.com/google/go-jsonnet/n008_6.FnLinePiecesAreFixedByTrimToLine", spec := "fnLinePiecesAreFixedByTrimToLine", apart := false, narrowed := true }
def FnLinePiecesAreFixedByTrimToLineUptoSaid : Prop := fnLinePiecesAreFixedByTrimToLineUptoRow.holds Try.pinned (OpenSpec.upto fnLinePiecesAreFixedByTrimToLineSpec)

/-- 'n008_6.FnLineBeginningAndEndingCompose', WHERE WHAT IT READS IS OF BULK AT MOST 1048576: true; the input reads as it did. -/
def fnLineBeginningAndEndingComposeUptoRow : OpenClaim := { program := "ytheamgcjnpljfaa", sum := "1c1c683a56b06ee831ed83e555caeb0526f08f035e14db63f8b3954a89a6bc91", func := "github.com/google/go-jsonnet/n008_6.FnLineBeginningAndEndingCompose", spec := "fnLineBeginningAndEndingCompose", apart := false, narrowed := true }
def FnLineBeginningAndEndingComposeUptoSaid : Prop := fnLineBeginningAndEndingComposeUptoRow.holds Try.pinned (OpenSpec.upto fnLineBeginningAndEndingComposeSpec)

/-- 'n008_6.FnToSliceListsDistinctMembers', WHERE WHAT IT READS IS OF BULK AT MOST 1048576: true; the input reads as it did. -/
def fnToSliceListsDistinctMembersUptoRow : OpenClaim := { program := "ytheamgcjnpljfaa", sum := "1c1c683a56b06ee831ed83e555caeb0526f08f035e14db63f8b3954a89a6bc91", func := "github.com/google/go-jsonnet/n008_6.FnToSliceListsDistinctMembers", spec := "fnToSliceListsDistinctMembers", recurses := true, apart := false, narrowed := true }
def FnToSliceListsDistinctMembersUptoSaid : Prop := fnToSliceListsDistinctMembersUptoRow.holds Try.pinned (OpenSpec.upto fnToSliceListsDistinctMembersSpec)

/-- 'n008_6.FnTrimToLineIdempotent', WHERE WHAT IT READS IS OF BULK AT MOST 1048576: true; the input reads as it did. -/
def fnTrimToLineIdempotentUptoRow : OpenClaim := { program := "ytheamgcjnpljfaa", sum := "1c1c683a56b06ee831ed83e555caeb0526f08f035e14db63f8b3954a89a6bc91", func := "github.com/google/go-jsonnet/n008_6.FnTrimToLineIdempotent", spec := "fnTrimToLineIdempotent", apart := false, narrowed := true }
def FnTrimToLineIdempotentUptoSaid : Prop := fnTrimToLineIdempotentUptoRow.holds Try.pinned (OpenSpec.upto fnTrimToLineIdempotentSpec)

/-- 'n008_6.FnToSliceAgreesWithAddCount', WHERE WHAT IT READS IS OF BULK AT MOST 1048576: true; the input reads as it did. -/
def fnToSliceAgreesWithAddCountUptoRow : OpenClaim := { program := "ytheamgcjnpljfaa", sum := "1c1c683a56b06ee831ed83e555caeb0526f08f035e14db63f8b3954a89a6bc91", func := "github.com/google/go-jsonnet/n008_6.FnToSliceAgreesWithAddCount", spec := "fnToSliceAgreesWithAddCount", apart := false, narrowed := true }
def FnToSliceAgreesWithAddCountUptoSaid : Prop := fnToSliceAgreesWithAddCountUptoRow.holds Try.pinned (OpenSpec.upto fnToSliceAgreesWithAddCountSpec)

end Rows
end Go.Proofs.Ytheamgcjnpljfaa
