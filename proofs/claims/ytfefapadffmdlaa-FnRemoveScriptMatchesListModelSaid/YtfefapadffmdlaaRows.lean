/-
  No cell of these rows narrows 'for every input' (looked for: loops, veiled, ifaces, maps, wideKeys, modest, calm, conditions, laid).
  DERIVED. THE GIVEN ROWS OF THIS SEAT. 6 by the template 'for every input the law returns true; each argument reads behind the call as it read before'; 0 by the template 'total and deterministic' (their statements: YtfefapadffmdlaaTotals.lean).
  GIVEN WITH THE SEED: the statements are not yours to turn. If you find one false, say at which input.
  Laid BY PROGRAM, IN A SANDBOX (cutbox-rows.mjs): the forced cells as the released guide's own fill.sh prints them over the translation b1e1006e7bf709b5… (all of the seat's roots in one cut). By AI agents, Wed Nov 11 2026. No macro, syntax, notation, axiom, sorry.
-/
import Derived.Test.YtfefapadffmdlaaChecked
import GoSem.Claim
import GoSem.ClaimJoined
import GoSem.ClaimMapViews
import Derived.JoinedTies
import Derived.KernelRfl
namespace Go.Proofs.Ytfefapadffmdlaa
/- THE CELL 'sum', in the pinned program and in every row, IS THE sha256 OF THE DUMP (.gsa) THAT YtfefapadffmdlaaProg.lean LOADS. Nothing in Lean hashes anything: it is a label: what it is worth is what the hold of that sum in a sandbox is worth. -/
noncomputable def Try.pinned : Pinned := { name := "ytfefapadffmdlaa", sum := "b1e1006e7bf709b55effc9ed88d623f33ca0a9761a8d316fdd27693f3c260192", checked := Try.checked }
namespace Rows
def none {H : Type} : Left H := { results := [], args := [] }

/-- 'n008_73.FnRemoveScriptMatchesListModel': WHATEVER THE INPUT: true; the input reads as it did. -/
def fnRemoveScriptMatchesListModelSpec : ChangeSpec := { name := "fnRemoveScriptMatchesListModel", fn := fun _ => fun
  | [d1, d2, d3] => { results := [.lit (.bool true)], args := [d1, d2, d3] }
  | _ => none }
def fnRemoveScriptMatchesListModelRow : OpenClaim := { program := "ytfefapadffmdlaa", sum := "b1e1006e7bf709b55effc9ed88d623f33ca0a9761a8d316fdd27693f3c260192", func := "github.com/google/go-jsonnet/n008_73.FnRemoveScriptMatchesListModel", spec := "fnRemoveScriptMatchesListModel", apart := false }
def FnRemoveScriptMatchesListModelSaid : Prop := fnRemoveScriptMatchesListModelRow.holds Try.pinned (OpenSpec.ofChange fnRemoveScriptMatchesListModelSpec)

/-- ITS FALSE NEIGHBOUR: 'it returns false'. Refute it at one input. -/
def fnRemoveScriptMatchesListModelWrong : ChangeSpec := { name := "fnRemoveScriptMatchesListModel", fn := fun _ => fun
  | [d1, d2, d3] => { results := [.lit (.bool false)], args := [d1, d2, d3] }
  | _ => none }
def FnRemoveScriptMatchesListModelWrongFalsely : Prop := fnRemoveScriptMatchesListModelRow.holds Try.pinned (OpenSpec.ofChange fnRemoveScriptMatchesListModelWrong)

/-- 'n008_73.FnContainsMatchesListMembership': WHATEVER THE INPUT: true; the input reads as it did. -/
def fnContainsMatchesListMembershipSpec : ChangeSpec := { name := "fnContainsMatchesListMembership", fn := fun _ => fun
  | [d1, d2] => { results := [.lit (.bool true)], args := [d1, d2] }
  | _ => none }
def fnContainsMatchesListMembershipRow : OpenClaim := { program := "ytfefapadffmdlaa", sum := "b1e1006e7bf709b55effc9ed88d623f33ca0a9761a8d316fdd27693f3c260192", func := "github.com/google/go-jsonnet/n008_73.FnContainsMatchesListMembership", spec := "fnContainsMatchesListMembership", apart := false }
def FnContainsMatchesListMembershipSaid : Prop := fnContainsMatchesListMembershipRow.holds Try.pinned (OpenSpec.ofChange fnContainsMatchesListMembershipSpec)

/-- ITS FALSE NEIGHBOUR: 'it returns false'. Refute it at one input. -/
def fnContainsMatchesListMembershipWrong : ChangeSpec := { name := "fnContainsMatchesListMembership", fn := fun _ => fun
  | [d1, d2] => { results := [.lit (.bool false)], args := [d1, d2] }
  | _ => none }
def FnContainsMatchesListMembershipWrongFalsely : Prop := fnContainsMatchesListMembershipRow.holds Try.pinned (OpenSpec.ofChange fnContainsMatchesListMembershipWrong)

/-- 'n008_73.FnContainsAgreesWithOrderedSlice': WHATEVER THE INPUT: true; the input reads as it did. -/
def fnContainsAgreesWithOrderedSliceSpec : ChangeSpec := { name := "fnContainsAgreesWithOrderedSlice", fn := fun _ => fun
  | [d1, d2] => { results := [.lit (.bool true)], args := [d1, d2] }
  | _ => none }
def fnContainsAgreesWithOrderedSliceRow : OpenClaim := { program := "ytfefapadffmdlaa", sum := "b1e1006e7bf709b55effc9ed88d623f33ca0a9761a8d316fdd27693f3c260192", func := "github.com/google/go-jsonnet/n008_73.FnContainsAgreesWithOrderedSlice", spec := "fnContainsAgreesWithOrderedSlice", unfollowed := true, recurses := true, apart := false }
def FnContainsAgreesWithOrderedSliceSaid : Prop := fnContainsAgreesWithOrderedSliceRow.holds Try.pinned (OpenSpec.ofChange fnContainsAgreesWithOrderedSliceSpec)

/-- ITS FALSE NEIGHBOUR: 'it returns false'. Refute it at one input. -/
def fnContainsAgreesWithOrderedSliceWrong : ChangeSpec := { name := "fnContainsAgreesWithOrderedSlice", fn := fun _ => fun
  | [d1, d2] => { results := [.lit (.bool false)], args := [d1, d2] }
  | _ => none }
def FnContainsAgreesWithOrderedSliceWrongFalsely : Prop := fnContainsAgreesWithOrderedSliceRow.holds Try.pinned (OpenSpec.ofChange fnContainsAgreesWithOrderedSliceWrong)

/-- 'n008_73.FnToOrderedSliceIsSortedDistinct': WHATEVER THE INPUT: true; the input reads as it did. -/
def fnToOrderedSliceIsSortedDistinctSpec : ChangeSpec := { name := "fnToOrderedSliceIsSortedDistinct", fn := fun _ => fun
  | [d] => { results := [.lit (.bool true)], args := [d] }
  | _ => none }
def fnToOrderedSliceIsSortedDistinctRow : OpenClaim := { program := "ytfefapadffmdlaa", sum := "b1e1006e7bf709b55effc9ed88d623f33ca0a9761a8d316fdd27693f3c260192", func := "github.com/google/go-jsonnet/n008_73.FnToOrderedSliceIsSortedDistinct", spec := "fnToOrderedSliceIsSortedDistinct", unfollowed := true, recurses := true, apart := false }
def FnToOrderedSliceIsSortedDistinctSaid : Prop := fnToOrderedSliceIsSortedDistinctRow.holds Try.pinned (OpenSpec.ofChange fnToOrderedSliceIsSortedDistinctSpec)

/-- ITS FALSE NEIGHBOUR: 'it returns false'. Refute it at one input. -/
def fnToOrderedSliceIsSortedDistinctWrong : ChangeSpec := { name := "fnToOrderedSliceIsSortedDistinct", fn := fun _ => fun
  | [d] => { results := [.lit (.bool false)], args := [d] }
  | _ => none }
def FnToOrderedSliceIsSortedDistinctWrongFalsely : Prop := fnToOrderedSliceIsSortedDistinctRow.holds Try.pinned (OpenSpec.ofChange fnToOrderedSliceIsSortedDistinctWrong)

/-- 'n008_73.FnToOrderedSliceOrderFree': WHATEVER THE INPUT: true; the input reads as it did. -/
def fnToOrderedSliceOrderFreeSpec : ChangeSpec := { name := "fnToOrderedSliceOrderFree", fn := fun _ => fun
  | [d] => { results := [.lit (.bool true)], args := [d] }
  | _ => none }
def fnToOrderedSliceOrderFreeRow : OpenClaim := { program := "ytfefapadffmdlaa", sum := "b1e1006e7bf709b55effc9ed88d623f33ca0a9761a8d316fdd27693f3c260192", func := "github.com/google/go-jsonnet/n008_73.FnToOrderedSliceOrderFree", spec := "fnToOrderedSliceOrderFree", unfollowed := true, recurses := true, apart := false }
def FnToOrderedSliceOrderFreeSaid : Prop := fnToOrderedSliceOrderFreeRow.holds Try.pinned (OpenSpec.ofChange fnToOrderedSliceOrderFreeSpec)

/-- ITS FALSE NEIGHBOUR: 'it returns false'. Refute it at one input. -/
def fnToOrderedSliceOrderFreeWrong : ChangeSpec := { name := "fnToOrderedSliceOrderFree", fn := fun _ => fun
  | [d] => { results := [.lit (.bool false)], args := [d] }
  | _ => none }
def FnToOrderedSliceOrderFreeWrongFalsely : Prop := fnToOrderedSliceOrderFreeRow.holds Try.pinned (OpenSpec.ofChange fnToOrderedSliceOrderFreeWrong)

/-- 'n008_73.FnRemoveTouchesOnlyItsKey': WHATEVER THE INPUT: true; the input reads as it did. -/
def fnRemoveTouchesOnlyItsKeySpec : ChangeSpec := { name := "fnRemoveTouchesOnlyItsKey", fn := fun _ => fun
  | [d1, d2] => { results := [.lit (.bool true)], args := [d1, d2] }
  | _ => none }
def fnRemoveTouchesOnlyItsKeyRow : OpenClaim := { program := "ytfefapadffmdlaa", sum := "b1e1006e7bf709b55effc9ed88d623f33ca0a9761a8d316fdd27693f3c260192", func := "github.com/google/go-jsonnet/n008_73.FnRemoveTouchesOnlyItsKey", spec := "fnRemoveTouchesOnlyItsKey", apart := false }
def FnRemoveTouchesOnlyItsKeySaid : Prop := fnRemoveTouchesOnlyItsKeyRow.holds Try.pinned (OpenSpec.ofChange fnRemoveTouchesOnlyItsKeySpec)

/-- ITS FALSE NEIGHBOUR: 'it returns false'. Refute it at one input. -/
def fnRemoveTouchesOnlyItsKeyWrong : ChangeSpec := { name := "fnRemoveTouchesOnlyItsKey", fn := fun _ => fun
  | [d1, d2] => { results := [.lit (.bool false)], args := [d1, d2] }
  | _ => none }
def FnRemoveTouchesOnlyItsKeyWrongFalsely : Prop := fnRemoveTouchesOnlyItsKeyRow.holds Try.pinned (OpenSpec.ofChange fnRemoveTouchesOnlyItsKeyWrong)

/- THE SECOND FORM. 'bulk': how many values and letters a reading holds, each counted each time it is reached (what is shared counts as often as it is met; a slice's spare places count too). A statement '..UptoSaid' is the law's where the arguments, and the package variables that the reading takes, are together of bulk at most 1048576: NARROWER than '..Said'. Prove '..Said' where nothing that the law and all that it calls make is longer than what came in: it says more and counts as full. Else prove '..UptoSaid'. A law counts once. -/
mutual
def uptoBulk {H : Type} : DataW H → Nat
  | .lit (.string bytes) => bytes.length + 1
  | .lit _ => 1
  | .nil => 1
  | .ptr d => uptoBulk d + 1
  | .slice elems spare => uptoBulkAll elems + uptoBulkAll spare + 1
  | .agg parts => uptoBulkAll parts + 1
  | .iface _ d => uptoBulk d + 1
  | .map entries => uptoBulkEntries entries + 1
  | .held _ => 1
def uptoBulkAll {H : Type} : List (DataW H) → Nat
  | [] => 0
  | d :: r => uptoBulk d + uptoBulkAll r
def uptoBulkEntries {H : Type} : List (Lit × DataW H) → Nat
  | [] => 0
  | x :: r => uptoBulkEntry x + uptoBulkEntries r
def uptoBulkEntry {H : Type} : Lit × DataW H → Nat
  | (.string bytes, d) => bytes.length + uptoBulk d + 1
  | (_, d) => uptoBulk d + 1
 end
def uptoSmall : (H : Type) → List (DataW H) → Bool := fun _ ds => decide (uptoBulkAll ds ≤ 1048576)
def OpenSpec.upto (s : _root_.Go.ChangeSpec) : _root_.Go.OpenSpec := { _root_.Go.OpenSpec.ofChange s with cond := some uptoSmall }

/-- 'n008_73.FnRemoveScriptMatchesListModel', WHERE WHAT IT READS IS OF BULK AT MOST 1048576: true; the input reads as it did. -/
def fnRemoveScriptMatchesListModelUptoRow : OpenClaim := { program := "ytfefapadffmdlaa", sum := "b1e1006e7bf709b55effc9ed88d623f33ca0a9761a8d316fdd27693f3c260192", func := "github.com/google/go-jsonnet/n008_73.FnRemoveScriptMatchesListModel", spec := "fnRemoveScriptMatchesListModel", apart := false, narrowed := true }
def FnRemoveScriptMatchesListModelUptoSaid : Prop := fnRemoveScriptMatchesListModelUptoRow.holds Try.pinned (OpenSpec.upto fnRemoveScriptMatchesListModelSpec)

/-- 'n008_73.FnContainsMatchesListMembership', WHERE WHAT IT READS IS OF BULK AT MOST 1048576: true; the input reads as it did. -/
def fnContainsMatchesListMembershipUptoRow : OpenClaim := { program := "ytfefapadffmdlaa", sum := "b1e1006e7bf709b55effc9ed88d623f33ca0a9761a8d316fdd27693f3c260192", func := "github.com/google/go-jsonnet/n008_73.FnContainsMatchesListMembership", spec := "fnContainsMatchesListMembership", apart := false, narrowed := true }
def FnContainsMatchesListMembershipUptoSaid : Prop := fnContainsMatchesListMembershipUptoRow.holds Try.pinned (OpenSpec.upto fnContainsMatchesListMembershipSpec)

/-- 'n008_73.FnContainsAgreesWithOrderedSlice', WHERE WHAT IT READS IS OF BULK AT MOST 1048576: true; the input reads as it did. -/
def fnContainsAgreesWithOrderedSliceUptoRow : OpenClaim := { program := "ytfefapadffmdlaa", sum := "b1e1006e7bf709b55effc9ed88d623f33ca0a9761a8d316fdd27693f3c260192", func := "github.com/google/go-jsonnet/n008_73.FnContainsAgreesWithOrderedSlice", spec := "fnContainsAgreesWithOrderedSlice", unfollowed := true, recurses := true, apart := false, narrowed := true }
def FnContainsAgreesWithOrderedSliceUptoSaid : Prop := fnContainsAgreesWithOrderedSliceUptoRow.holds Try.pinned (OpenSpec.upto fnContainsAgreesWithOrderedSliceSpec)

/-- 'n008_73.FnToOrderedSliceIsSortedDistinct', WHERE WHAT IT READS IS OF BULK AT MOST 1048576: true; the input reads as it did. -/
def fnToOrderedSliceIsSortedDistinctUptoRow : OpenClaim := { program := "ytfefapadffmdlaa", sum := "b1e1006e7bf709b55effc9ed88d623f33ca0a9761a8d316fdd27693f3c260192", func := "github.com/google/go-jsonnet/n008_73.FnToOrderedSliceIsSortedDistinct", spec := "fnToOrderedSliceIsSortedDistinct", unfollowed := true, recurses := true, apart := false, narrowed := true }
def FnToOrderedSliceIsSortedDistinctUptoSaid : Prop := fnToOrderedSliceIsSortedDistinctUptoRow.holds Try.pinned (OpenSpec.upto fnToOrderedSliceIsSortedDistinctSpec)

/-- 'n008_73.FnToOrderedSliceOrderFree', WHERE WHAT IT READS IS OF BULK AT MOST 1048576: true; the input reads as it did. -/
def fnToOrderedSliceOrderFreeUptoRow : OpenClaim := { program := "ytfefapadffmdlaa", sum := "b1e1006e7bf709b55effc9ed88d623f33ca0a9761a8d316fdd27693f3c260192", func := "github.com/google/go-jsonnet/n008_73.FnToOrderedSliceOrderFree", spec := "fnToOrderedSliceOrderFree", unfollowed := true, recurses := true, apart := false, narrowed := true }
def FnToOrderedSliceOrderFreeUptoSaid : Prop := fnToOrderedSliceOrderFreeUptoRow.holds Try.pinned (OpenSpec.upto fnToOrderedSliceOrderFreeSpec)

/-- 'n008_73.FnRemoveTouchesOnlyItsKey', WHERE WHAT IT READS IS OF BULK AT MOST 1048576: true; the input reads as it did. -/
def fnRemoveTouchesOnlyItsKeyUptoRow : OpenClaim := { program := "ytfefapadffmdlaa", sum := "b1e1006e7bf709b55effc9ed88d623f33ca0a9761a8d316fdd27693f3c260192", func := "github.com/google/go-jsonnet/n008_73.FnRemoveTouchesOnlyItsKey", spec := "fnRemoveTouchesOnlyItsKey", apart := false, narrowed := true }
def FnRemoveTouchesOnlyItsKeyUptoSaid : Prop := fnRemoveTouchesOnlyItsKeyUptoRow.holds Try.pinned (OpenSpec.upto fnRemoveTouchesOnlyItsKeySpec)

end Rows
end Go.Proofs.Ytfefapadffmdlaa
