/-
  No cell of these rows narrows 'for every input' (looked for: loops, veiled, ifaces, maps, wideKeys, modest, calm, conditions, laid).
  DERIVED. THE GIVEN ROWS OF THIS SEAT. 2 by the template 'for every input the law returns true; each argument reads behind the call as it read before'; 0 by the template 'total and deterministic' (their statements: YtcidojhomoelcaaTotals.lean).
  GIVEN WITH THE SEED: the statements are not yours to turn. If you find one false, say at which input.
  Laid BY PROGRAM, IN A SANDBOX (cutbox-rows.mjs): the forced cells as the released guide's own fill.sh prints them over the translation f56231cd239056e9… (all of the seat's roots in one cut). By AI agents, Wed Nov 11 2026. No macro, syntax, notation, axiom, sorry.
-/
import Derived.Test.YtcidojhomoelcaaChecked
import GoSem.Claim
import GoSem.ClaimJoined
import GoSem.ClaimMapViews
import Derived.JoinedTies
import Derived.KernelRfl
namespace Go.Proofs.Ytcidojhomoelcaa
/- THE CELL 'sum', in the pinned program and in every row, IS THE sha256 OF THE DUMP (.gsa) THAT YtcidojhomoelcaaProg.lean LOADS. Nothing in Lean hashes anything: it is a label: what it is worth is what the hold of that sum in a sandbox is worth. -/
noncomputable def Try.pinned : Pinned := { name := "ytcidojhomoelcaa", sum := "f56231cd239056e974568cb1557a6812253114cf97eea593f7505d8846f5be1f", checked := Try.checked }
namespace Rows
def none {H : Type} : Left H := { results := [], args := [] }

/-- 'n008_116.FnFunctionContextInjectiveFresh': WHATEVER THE INPUT: true; the input reads as it did. -/
def fnFunctionContextInjectiveFreshSpec : ChangeSpec := { name := "fnFunctionContextInjectiveFresh", fn := fun _ => fun
  | [d1, d2] => { results := [.lit (.bool true)], args := [d1, d2] }
  | _ => none }
def fnFunctionContextInjectiveFreshRow : OpenClaim := { program := "ytcidojhomoelcaa", sum := "f56231cd239056e974568cb1557a6812253114cf97eea593f7505d8846f5be1f", func := "github.com/google/go-jsonnet/n008_116.FnFunctionContextInjectiveFresh", spec := "fnFunctionContextInjectiveFresh", apart := false }
def FnFunctionContextInjectiveFreshSaid : Prop := fnFunctionContextInjectiveFreshRow.holds Try.pinned (OpenSpec.ofChange fnFunctionContextInjectiveFreshSpec)

/-- ITS FALSE NEIGHBOUR: 'it returns false'. Refute it at one input. -/
def fnFunctionContextInjectiveFreshWrong : ChangeSpec := { name := "fnFunctionContextInjectiveFresh", fn := fun _ => fun
  | [d1, d2] => { results := [.lit (.bool false)], args := [d1, d2] }
  | _ => none }
def FnFunctionContextInjectiveFreshWrongFalsely : Prop := fnFunctionContextInjectiveFreshRow.holds Try.pinned (OpenSpec.ofChange fnFunctionContextInjectiveFreshWrong)

/-- 'n008_116.FnObjectContextDistinctAndInjective': WHATEVER THE INPUT: true; the input reads as it did. -/
def fnObjectContextDistinctAndInjectiveSpec : ChangeSpec := { name := "fnObjectContextDistinctAndInjective", fn := fun _ => fun
  | [d1, d2] => { results := [.lit (.bool true)], args := [d1, d2] }
  | _ => none }
def fnObjectContextDistinctAndInjectiveRow : OpenClaim := { program := "ytcidojhomoelcaa", sum := "f56231cd239056e974568cb1557a6812253114cf97eea593f7505d8846f5be1f", func := "github.com/google/go-jsonnet/n008_116.FnObjectContextDistinctAndInjective", spec := "fnObjectContextDistinctAndInjective", apart := false }
def FnObjectContextDistinctAndInjectiveSaid : Prop := fnObjectContextDistinctAndInjectiveRow.holds Try.pinned (OpenSpec.ofChange fnObjectContextDistinctAndInjectiveSpec)

/-- ITS FALSE NEIGHBOUR: 'it returns false'. Refute it at one input. -/
def fnObjectContextDistinctAndInjectiveWrong : ChangeSpec := { name := "fnObjectContextDistinctAndInjective", fn := fun _ => fun
  | [d1, d2] => { results := [.lit (.bool false)], args := [d1, d2] }
  | _ => none }
def FnObjectContextDistinctAndInjectiveWrongFalsely : Prop := fnObjectContextDistinctAndInjectiveRow.holds Try.pinned (OpenSpec.ofChange fnObjectContextDistinctAndInjectiveWrong)

/- THE SECOND FORM. 'bulk': how many values and letters a reading holds, each counted each time it is reached (what is shared counts as often as it is met; a slice's spare places count too). A statement '..UptoSaid' is the law's where the arguments, and the package variables that the reading takes, are together of bulk at most 1048576: NARROWER than '..Said'. Prove '..Said' where nothing that the law and all that it calls make is longer than what came in: it says more and counts as full. Else prove '..UptoSaid'. A law counts once. -/
mutual
def uptoBulk {H : Type} : DataW H → Nat
  | .lit (.string bytes) => bytes.length + 1
  | .lit _ => 1
  | .nil => 1
  | .ptr d => uptoBulk d + 1
  | .slice elems spare => uptoBulkAll elems + uptoBulkAll spare + 1
  | .agg parts => uptoBulkAll parts + 1
  | .iface _ d => uptoBulk d + 1
  | .map entries => uptoBulkEntries entries + 1
  | .held _ => 1
def uptoBulkAll {H : Type} : List (DataW H) → Nat
  | [] => 0
  | d :: r => uptoBulk d + uptoBulkAll r
def uptoBulkEntries {H : Type} : List (Lit × DataW H) → Nat
  | [] => 0
  | x :: r => uptoBulkEntry x + uptoBulkEntries r
def uptoBulkEntry {H : Type} : Lit × DataW H → Nat
  | (.string bytes, d) => bytes.length + uptoBulk d + 1
  | (_, d) => uptoBulk d + 1
 end
def uptoSmall : (H : Type) → List (DataW H) → Bool := fun _ ds => decide (uptoBulkAll ds ≤ 1048576)
def OpenSpec.upto (s : _root_.Go.ChangeSpec) : _root_.Go.OpenSpec := { _root_.Go.OpenSpec.ofChange s with cond := some uptoSmall }

/-- 'n008_116.FnFunctionContextInjectiveFresh', WHERE WHAT IT READS IS OF BULK AT MOST 1048576: true; the input reads as it did. -/
def fnFunctionContextInjectiveFreshUptoRow : OpenClaim := { program := "ytcidojhomoelcaa", sum := "f56231cd239056e974568cb1557a6812253114cf97eea593f7505d8846f5be1f", func := "github.com/google/go-jsonnet/n008_116.FnFunctionContextInjectiveFresh", spec := "fnFunctionContextInjectiveFresh", apart := false, narrowed := true }
def FnFunctionContextInjectiveFreshUptoSaid : Prop := fnFunctionContextInjectiveFreshUptoRow.holds Try.pinned (OpenSpec.upto fnFunctionContextInjectiveFreshSpec)

/-- 'n008_116.FnObjectContextDistinctAndInjective', WHERE WHAT IT READS IS OF BULK AT MOST 1048576: true; the input reads as it did. -/
def fnObjectContextDistinctAndInjectiveUptoRow : OpenClaim := { program := "ytcidojhomoelcaa", sum := "f56231cd239056e974568cb1557a6812253114cf97eea593f7505d8846f5be1f", func := "github.com/google/go-jsonnet/n008_116.FnObjectContextDistinctAndInjective", spec := "fnObjectContextDistinctAndInjective", apart := false, narrowed := true }
def FnObjectContextDistinctAndInjectiveUptoSaid : Prop := fnObjectContextDistinctAndInjectiveUptoRow.holds Try.pinned (OpenSpec.upto fnObjectContextDistinctAndInjectiveSpec)

end Rows
end Go.Proofs.Ytcidojhomoelcaa
