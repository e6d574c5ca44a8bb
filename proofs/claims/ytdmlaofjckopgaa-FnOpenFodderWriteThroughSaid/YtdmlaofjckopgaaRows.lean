/-
  No cell of these rows narrows 'for every input' (looked for: loops, veiled, ifaces, maps, wideKeys, modest, calm, conditions, laid).
  DERIVED. THE GIVEN ROWS OF THIS SEAT. 5 by the template 'for every input the law returns true; each argument reads behind the call as it read before'; 0 by the template 'total and deterministic' (their statements: YtdmlaofjckopgaaTotals.lean).
  GIVEN WITH THE SEED: the statements are not yours to turn. If you find one false, say at which input.
  Laid BY PROGRAM, IN A SANDBOX (cutbox-rows.mjs): the forced cells as the released guide's own fill.sh prints them over the translation 5f8887e8121218a2… (all of the seat's roots in one cut). By AI agents, Wed Nov 11 2026. No macro, syntax, notation, axiom, sorry.
-/
import Derived.Test.YtdmlaofjckopgaaChecked
import GoSem.Claim
import GoSem.ClaimJoined
import GoSem.ClaimMapViews
import Derived.JoinedTies
import Derived.KernelRfl
namespace Go.Proofs.Ytdmlaofjckopgaa
/- THE CELL 'sum', in the pinned program and in every row, IS THE sha256 OF THE DUMP (.gsa) THAT YtdmlaofjckopgaaProg.lean LOADS. Nothing in Lean hashes anything: it is a label: what it is worth is what the hold of that sum in a sandbox is worth. -/
noncomputable def Try.pinned : Pinned := { name := "ytdmlaofjckopgaa", sum := "5f8887e8121218a23b8c1ca156a6f40f3ac14864b57fcf235f91ae9cd4966238", checked := Try.checked }
namespace Rows
def none {H : Type} : Left H := { results := [], args := [] }

/-- 'n008_25.FnLocRangeBetweenNodes': WHATEVER THE INPUT: true; the input reads as it did. -/
def fnLocRangeBetweenNodesSpec : ChangeSpec := { name := "fnLocRangeBetweenNodes", fn := fun _ => fun
  | [d1, d2, d3, d4, d5, d6, d7, d8, d9, d10] => { results := [.lit (.bool true)], args := [d1, d2, d3, d4, d5, d6, d7, d8, d9, d10] }
  | _ => none }
def fnLocRangeBetweenNodesRow : OpenClaim := { program := "ytdmlaofjckopgaa", sum := "5f8887e8121218a23b8c1ca156a6f40f3ac14864b57fcf235f91ae9cd4966238", func := "github.com/google/go-jsonnet/n008_25.FnLocRangeBetweenNodes", spec := "fnLocRangeBetweenNodes", apart := false }
def FnLocRangeBetweenNodesSaid : Prop := fnLocRangeBetweenNodesRow.holds Try.pinned (OpenSpec.ofChange fnLocRangeBetweenNodesSpec)

/-- ITS FALSE NEIGHBOUR: 'it returns false'. Refute it at one input. -/
def fnLocRangeBetweenNodesWrong : ChangeSpec := { name := "fnLocRangeBetweenNodes", fn := fun _ => fun
  | [d1, d2, d3, d4, d5, d6, d7, d8, d9, d10] => { results := [.lit (.bool false)], args := [d1, d2, d3, d4, d5, d6, d7, d8, d9, d10] }
  | _ => none }
def FnLocRangeBetweenNodesWrongFalsely : Prop := fnLocRangeBetweenNodesRow.holds Try.pinned (OpenSpec.ofChange fnLocRangeBetweenNodesWrong)

/-- 'n008_25.FnOpenFodderWriteThrough': WHATEVER THE INPUT: true; the input reads as it did. -/
def fnOpenFodderWriteThroughSpec : ChangeSpec := { name := "fnOpenFodderWriteThrough", fn := fun _ => fun
  | [d1, d2, d3, d4, d5, d6, d7] => { results := [.lit (.bool true)], args := [d1, d2, d3, d4, d5, d6, d7] }
  | _ => none }
def fnOpenFodderWriteThroughRow : OpenClaim := { program := "ytdmlaofjckopgaa", sum := "5f8887e8121218a23b8c1ca156a6f40f3ac14864b57fcf235f91ae9cd4966238", func := "github.com/google/go-jsonnet/n008_25.FnOpenFodderWriteThrough", spec := "fnOpenFodderWriteThrough", apart := false }
def FnOpenFodderWriteThroughSaid : Prop := fnOpenFodderWriteThroughRow.holds Try.pinned (OpenSpec.ofChange fnOpenFodderWriteThroughSpec)

/-- ITS FALSE NEIGHBOUR: 'it returns false'. Refute it at one input. -/
def fnOpenFodderWriteThroughWrong : ChangeSpec := { name := "fnOpenFodderWriteThrough", fn := fun _ => fun
  | [d1, d2, d3, d4, d5, d6, d7] => { results := [.lit (.bool false)], args := [d1, d2, d3, d4, d5, d6, d7] }
  | _ => none }
def FnOpenFodderWriteThroughWrongFalsely : Prop := fnOpenFodderWriteThroughRow.holds Try.pinned (OpenSpec.ofChange fnOpenFodderWriteThroughWrong)

/-- 'n008_25.FnLocWriteThrough': WHATEVER THE INPUT: true; the input reads as it did. -/
def fnLocWriteThroughSpec : ChangeSpec := { name := "fnLocWriteThrough", fn := fun _ => fun
  | [d1, d2, d3, d4, d5, d6, d7, d8, d9, d10] => { results := [.lit (.bool true)], args := [d1, d2, d3, d4, d5, d6, d7, d8, d9, d10] }
  | _ => none }
def fnLocWriteThroughRow : OpenClaim := { program := "ytdmlaofjckopgaa", sum := "5f8887e8121218a23b8c1ca156a6f40f3ac14864b57fcf235f91ae9cd4966238", func := "github.com/google/go-jsonnet/n008_25.FnLocWriteThrough", spec := "fnLocWriteThrough", apart := false }
def FnLocWriteThroughSaid : Prop := fnLocWriteThroughRow.holds Try.pinned (OpenSpec.ofChange fnLocWriteThroughSpec)

/-- ITS FALSE NEIGHBOUR: 'it returns false'. Refute it at one input. -/
def fnLocWriteThroughWrong : ChangeSpec := { name := "fnLocWriteThrough", fn := fun _ => fun
  | [d1, d2, d3, d4, d5, d6, d7, d8, d9, d10] => { results := [.lit (.bool false)], args := [d1, d2, d3, d4, d5, d6, d7, d8, d9, d10] }
  | _ => none }
def FnLocWriteThroughWrongFalsely : Prop := fnLocWriteThroughRow.holds Try.pinned (OpenSpec.ofChange fnLocWriteThroughWrong)

/-- 'n008_25.FnNewNodeBaseLocIsSet': WHATEVER THE INPUT: true; the input reads as it did. -/
def fnNewNodeBaseLocIsSetSpec : ChangeSpec := { name := "fnNewNodeBaseLocIsSet", fn := fun _ => fun
  | [d1, d2, d3, d4, d5] => { results := [.lit (.bool true)], args := [d1, d2, d3, d4, d5] }
  | _ => none }
def fnNewNodeBaseLocIsSetRow : OpenClaim := { program := "ytdmlaofjckopgaa", sum := "5f8887e8121218a23b8c1ca156a6f40f3ac14864b57fcf235f91ae9cd4966238", func := "github.com/google/go-jsonnet/n008_25.FnNewNodeBaseLocIsSet", spec := "fnNewNodeBaseLocIsSet", apart := false }
def FnNewNodeBaseLocIsSetSaid : Prop := fnNewNodeBaseLocIsSetRow.holds Try.pinned (OpenSpec.ofChange fnNewNodeBaseLocIsSetSpec)

/-- ITS FALSE NEIGHBOUR: 'it returns false'. Refute it at one input. -/
def fnNewNodeBaseLocIsSetWrong : ChangeSpec := { name := "fnNewNodeBaseLocIsSet", fn := fun _ => fun
  | [d1, d2, d3, d4, d5] => { results := [.lit (.bool false)], args := [d1, d2, d3, d4, d5] }
  | _ => none }
def FnNewNodeBaseLocIsSetWrongFalsely : Prop := fnNewNodeBaseLocIsSetRow.holds Try.pinned (OpenSpec.ofChange fnNewNodeBaseLocIsSetWrong)

/-- 'n008_25.FnFreeVariablesSetGet': WHATEVER THE INPUT: true; the input reads as it did. -/
def fnFreeVariablesSetGetSpec : ChangeSpec := { name := "fnFreeVariablesSetGet", fn := fun _ => fun
  | [d1, d2] => { results := [.lit (.bool true)], args := [d1, d2] }
  | _ => none }
def fnFreeVariablesSetGetRow : OpenClaim := { program := "ytdmlaofjckopgaa", sum := "5f8887e8121218a23b8c1ca156a6f40f3ac14864b57fcf235f91ae9cd4966238", func := "github.com/google/go-jsonnet/n008_25.FnFreeVariablesSetGet", spec := "fnFreeVariablesSetGet", apart := false }
def FnFreeVariablesSetGetSaid : Prop := fnFreeVariablesSetGetRow.holds Try.pinned (OpenSpec.ofChange fnFreeVariablesSetGetSpec)

/-- ITS FALSE NEIGHBOUR: 'it returns false'. Refute it at one input. -/
def fnFreeVariablesSetGetWrong : ChangeSpec := { name := "fnFreeVariablesSetGet", fn := fun _ => fun
  | [d1, d2] => { results := [.lit (.bool false)], args := [d1, d2] }
  | _ => none }
def FnFreeVariablesSetGetWrongFalsely : Prop := fnFreeVariablesSetGetRow.holds Try.pinned (OpenSpec.ofChange fnFreeVariablesSetGetWrong)

/- THE SECOND FORM. 'bulk': how many values and letters a reading holds, each counted each time it is reached (what is shared counts as often as it is met; a slice's spare places count too). A statement '..UptoSaid' is the law's where the arguments, and the package variables that the reading takes, are together of bulk at most 1048576: NARROWER than '..Said'. Prove '..Said' where nothing that the law and all that it calls make is longer than what came in: it says more and counts as full. Else prove '..UptoSaid'. A law counts once. -/
mutual
def uptoBulk {H : Type} : DataW H → Nat
  | .lit (.string bytes) => bytes.length + 1
  | .lit _ => 1
  | .nil => 1
  | .ptr d => uptoBulk d + 1
  | .slice elems spare => uptoBulkAll elems + uptoBulkAll spare + 1
  | .agg parts => uptoBulkAll parts + 1
  | .iface _ d => uptoBulk d + 1
  | .map entries => uptoBulkEntries entries + 1
  | .held _ => 1
def uptoBulkAll {H : Type} : List (DataW H) → Nat
  | [] => 0
  | d :: r => uptoBulk d + uptoBulkAll r
def uptoBulkEntries {H : Type} : List (Lit × DataW H) → Nat
  | [] => 0
  | x :: r => uptoBulkEntry x + uptoBulkEntries r
def uptoBulkEntry {H : Type} : Lit × DataW H → Nat
  | (.string bytes, d) => bytes.length + uptoBulk d + 1
  | (_, d) => uptoBulk d + 1
 end
def uptoSmall : (H : Type) → List (DataW H) → Bool := fun _ ds => decide (uptoBulkAll ds ≤ 1048576)
def OpenSpec.upto (s : _root_.Go.ChangeSpec) : _root_.Go.OpenSpec := { _root_.Go.OpenSpec.ofChange s with cond := some uptoSmall }

/-- 'n008_25.FnLocRangeBetweenNodes', WHERE WHAT IT READS IS OF BULK AT MOST 1048576: true; the input reads as it did. -/
def fnLocRangeBetweenNodesUptoRow : OpenClaim := { program := "ytdmlaofjckopgaa", sum := "5f8887e8121218a23b8c1ca156a6f40f3ac14864b57fcf235f91ae9cd4966238", func := "github.com/google/go-jsonnet/n008_25.FnLocRangeBetweenNodes", spec := "fnLocRangeBetweenNodes", apart := false, narrowed := true }
def FnLocRangeBetweenNodesUptoSaid : Prop := fnLocRangeBetweenNodesUptoRow.holds Try.pinned (OpenSpec.upto fnLocRangeBetweenNodesSpec)

/-- 'n008_25.FnOpenFodderWriteThrough', WHERE WHAT IT READS IS OF BULK AT MOST 1048576: true; the input reads as it did. -/
def fnOpenFodderWriteThroughUptoRow : OpenClaim := { program := "ytdmlaofjckopgaa", sum := "5f8887e8121218a23b8c1ca156a6f40f3ac14864b57fcf235f91ae9cd4966238", func := "github.com/google/go-jsonnet/n008_25.FnOpenFodderWriteThrough", spec := "fnOpenFodderWriteThrough", apart := false, narrowed := true }
def FnOpenFodderWriteThroughUptoSaid : Prop := fnOpenFodderWriteThroughUptoRow.holds Try.pinned (OpenSpec.upto fnOpenFodderWriteThroughSpec)

/-- 'n008_25.FnLocWriteThrough', WHERE WHAT IT READS IS OF BULK AT MOST 1048576: true; the input reads as it did. -/
def fnLocWriteThroughUptoRow : OpenClaim := { program := "ytdmlaofjckopgaa", sum := "5f8887e8121218a23b8c1ca156a6f40f3ac14864b57fcf235f91ae9cd4966238", func := "github.com/google/go-jsonnet/n008_25.FnLocWriteThrough", spec := "fnLocWriteThrough", apart := false, narrowed := true }
def FnLocWriteThroughUptoSaid : Prop := fnLocWriteThroughUptoRow.holds Try.pinned (OpenSpec.upto fnLocWriteThroughSpec)

/-- 'n008_25.FnNewNodeBaseLocIsSet', WHERE WHAT IT READS IS OF BULK AT MOST 1048576: true; the input reads as it did. -/
def fnNewNodeBaseLocIsSetUptoRow : OpenClaim := { program := "ytdmlaofjckopgaa", sum := "5f8887e8121218a23b8c1ca156a6f40f3ac14864b57fcf235f91ae9cd4966238", func := "github.com/google/go-jsonnet/n008_25.FnNewNodeBaseLocIsSet", spec := "fnNewNodeBaseLocIsSet", apart := false, narrowed := true }
def FnNewNodeBaseLocIsSetUptoSaid : Prop := fnNewNodeBaseLocIsSetUptoRow.holds Try.pinned (OpenSpec.upto fnNewNodeBaseLocIsSetSpec)

/-- 'n008_25.FnFreeVariablesSetGet', WHERE WHAT IT READS IS OF BULK AT MOST 1048576: true; the input reads as it did. -/
def fnFreeVariablesSetGetUptoRow : OpenClaim := { program := "ytdmlaofjckopgaa", sum := "5f8887e8121218a23b8c1ca156a6f40f3ac14864b57fcf235f91ae9cd4966238", func := "github.com/google/go-jsonnet/n008_25.FnFreeVariablesSetGet", spec := "fnFreeVariablesSetGet", apart := false, narrowed := true }
def FnFreeVariablesSetGetUptoSaid : Prop := fnFreeVariablesSetGetUptoRow.holds Try.pinned (OpenSpec.upto fnFreeVariablesSetGetSpec)

end Rows
end Go.Proofs.Ytdmlaofjckopgaa
