/-
  No cell of these rows narrows 'for every input' (looked for: loops, veiled, ifaces, maps, wideKeys, modest, calm, conditions, laid).
  DERIVED. THE GIVEN ROWS OF THIS SEAT. 4 by the template 'for every input the law returns true; each argument reads behind the call as it read before'; 0 by the template 'total and deterministic' (their statements: YtgeomhefpofjjaaTotals.lean).
  GIVEN WITH THE SEED: the statements are not yours to turn. If you find one false, say at which input.
  Laid BY PROGRAM, IN A SANDBOX (cutbox-rows.mjs): the forced cells as the released guide's own fill.sh prints them over the translation 9121be318f940244… (all of the seat's roots in one cut). By AI agents, Wed Nov 11 2026. No macro, syntax, notation, axiom, sorry.
-/
import Derived.Test.YtgeomhefpofjjaaChecked
import GoSem.Claim
import GoSem.ClaimJoined
import GoSem.ClaimMapViews
import Derived.JoinedTies
import Derived.KernelRfl
namespace Go.Proofs.Ytgeomhefpofjjaa
/- THE CELL 'sum', in the pinned program and in every row, IS THE sha256 OF THE DUMP (.gsa) THAT YtgeomhefpofjjaaProg.lean LOADS. Nothing in Lean hashes anything: it is a label: what it is worth is what the hold of that sum in a sandbox is worth. -/
noncomputable def Try.pinned : Pinned := { name := "ytgeomhefpofjjaa", sum := "9121be318f940244f165476bc2ed35d43ecc8d9de38e5f68a92bc7a81ebf5b18", checked := Try.checked }
namespace Rows
def none {H : Type} : Left H := { results := [], args := [] }

/-- 'n008_31.FnSetContextLastWinsKeepsOthers': WHATEVER THE INPUT: true; the input reads as it did. -/
def fnSetContextLastWinsKeepsOthersSpec : ChangeSpec := { name := "fnSetContextLastWinsKeepsOthers", fn := fun _ => fun
  | [d1, d2, d3, d4] => { results := [.lit (.bool true)], args := [d1, d2, d3, d4] }
  | _ => none }
def fnSetContextLastWinsKeepsOthersRow : OpenClaim := { program := "ytgeomhefpofjjaa", sum := "9121be318f940244f165476bc2ed35d43ecc8d9de38e5f68a92bc7a81ebf5b18", func := "github.com/google/go-jsonnet/n008_31.FnSetContextLastWinsKeepsOthers", spec := "fnSetContextLastWinsKeepsOthers", apart := false }
def FnSetContextLastWinsKeepsOthersSaid : Prop := fnSetContextLastWinsKeepsOthersRow.holds Try.pinned (OpenSpec.ofChange fnSetContextLastWinsKeepsOthersSpec)

/-- ITS FALSE NEIGHBOUR: 'it returns false'. Refute it at one input. -/
def fnSetContextLastWinsKeepsOthersWrong : ChangeSpec := { name := "fnSetContextLastWinsKeepsOthers", fn := fun _ => fun
  | [d1, d2, d3, d4] => { results := [.lit (.bool false)], args := [d1, d2, d3, d4] }
  | _ => none }
def FnSetContextLastWinsKeepsOthersWrongFalsely : Prop := fnSetContextLastWinsKeepsOthersRow.holds Try.pinned (OpenSpec.ofChange fnSetContextLastWinsKeepsOthersWrong)

/-- 'n008_31.FnSetContextThenContext': WHATEVER THE INPUT: true; the input reads as it did. -/
def fnSetContextThenContextSpec : ChangeSpec := { name := "fnSetContextThenContext", fn := fun _ => fun
  | [d1, d2] => { results := [.lit (.bool true)], args := [d1, d2] }
  | _ => none }
def fnSetContextThenContextRow : OpenClaim := { program := "ytgeomhefpofjjaa", sum := "9121be318f940244f165476bc2ed35d43ecc8d9de38e5f68a92bc7a81ebf5b18", func := "github.com/google/go-jsonnet/n008_31.FnSetContextThenContext", spec := "fnSetContextThenContext", apart := false }
def FnSetContextThenContextSaid : Prop := fnSetContextThenContextRow.holds Try.pinned (OpenSpec.ofChange fnSetContextThenContextSpec)

/-- ITS FALSE NEIGHBOUR: 'it returns false'. Refute it at one input. -/
def fnSetContextThenContextWrong : ChangeSpec := { name := "fnSetContextThenContext", fn := fun _ => fun
  | [d1, d2] => { results := [.lit (.bool false)], args := [d1, d2] }
  | _ => none }
def FnSetContextThenContextWrongFalsely : Prop := fnSetContextThenContextRow.holds Try.pinned (OpenSpec.ofChange fnSetContextThenContextWrong)

/-- 'n008_31.FnSetFreeVariablesThenFreeVariables': WHATEVER THE INPUT: true; the input reads as it did. -/
def fnSetFreeVariablesThenFreeVariablesSpec : ChangeSpec := { name := "fnSetFreeVariablesThenFreeVariables", fn := fun _ => fun
  | [d] => { results := [.lit (.bool true)], args := [d] }
  | _ => none }
def fnSetFreeVariablesThenFreeVariablesRow : OpenClaim := { program := "ytgeomhefpofjjaa", sum := "9121be318f940244f165476bc2ed35d43ecc8d9de38e5f68a92bc7a81ebf5b18", func := "github.com/google/go-jsonnet/n008_31.FnSetFreeVariablesThenFreeVariables", spec := "fnSetFreeVariablesThenFreeVariables", apart := false }
def FnSetFreeVariablesThenFreeVariablesSaid : Prop := fnSetFreeVariablesThenFreeVariablesRow.holds Try.pinned (OpenSpec.ofChange fnSetFreeVariablesThenFreeVariablesSpec)

/-- ITS FALSE NEIGHBOUR: 'it returns false'. Refute it at one input. -/
def fnSetFreeVariablesThenFreeVariablesWrong : ChangeSpec := { name := "fnSetFreeVariablesThenFreeVariables", fn := fun _ => fun
  | [d] => { results := [.lit (.bool false)], args := [d] }
  | _ => none }
def FnSetFreeVariablesThenFreeVariablesWrongFalsely : Prop := fnSetFreeVariablesThenFreeVariablesRow.holds Try.pinned (OpenSpec.ofChange fnSetFreeVariablesThenFreeVariablesWrong)

/-- 'n008_31.FnSetFreeVariablesLastWriteWins': WHATEVER THE INPUT: true; the input reads as it did. -/
def fnSetFreeVariablesLastWriteWinsSpec : ChangeSpec := { name := "fnSetFreeVariablesLastWriteWins", fn := fun _ => fun
  | [d1, d2, d3, d4, d5] => { results := [.lit (.bool true)], args := [d1, d2, d3, d4, d5] }
  | _ => none }
def fnSetFreeVariablesLastWriteWinsRow : OpenClaim := { program := "ytgeomhefpofjjaa", sum := "9121be318f940244f165476bc2ed35d43ecc8d9de38e5f68a92bc7a81ebf5b18", func := "github.com/google/go-jsonnet/n008_31.FnSetFreeVariablesLastWriteWins", spec := "fnSetFreeVariablesLastWriteWins", apart := false }
def FnSetFreeVariablesLastWriteWinsSaid : Prop := fnSetFreeVariablesLastWriteWinsRow.holds Try.pinned (OpenSpec.ofChange fnSetFreeVariablesLastWriteWinsSpec)

/-- ITS FALSE NEIGHBOUR: 'it returns false'. Refute it at one input. -/
def fnSetFreeVariablesLastWriteWinsWrong : ChangeSpec := { name := "fnSetFreeVariablesLastWriteWins", fn := fun _ => fun
  | [d1, d2, d3, d4, d5] => { results := [.lit (.bool false)], args := [d1, d2, d3, d4, d5] }
  | _ => none }
def FnSetFreeVariablesLastWriteWinsWrongFalsely : Prop := fnSetFreeVariablesLastWriteWinsRow.holds Try.pinned (OpenSpec.ofChange fnSetFreeVariablesLastWriteWinsWrong)

/- THE SECOND FORM. 'bulk': how many values and letters a reading holds, each counted each time it is reached (what is shared counts as often as it is met; a slice's spare places count too). A statement '..UptoSaid' is the law's where the arguments, and the package variables that the reading takes, are together of bulk at most 1048576: NARROWER than '..Said'. Prove '..Said' where nothing that the law and all that it calls make is longer than what came in: it says more and counts as full. Else prove '..UptoSaid'. A law counts once. -/
mutual
def uptoBulk {H : Type} : DataW H → Nat
  | .lit (.string bytes) => bytes.length + 1
  | .lit _ => 1
  | .nil => 1
  | .ptr d => uptoBulk d + 1
  | .slice elems spare => uptoBulkAll elems + uptoBulkAll spare + 1
  | .agg parts => uptoBulkAll parts + 1
  | .iface _ d => uptoBulk d + 1
  | .map entries => uptoBulkEntries entries + 1
  | .held _ => 1
def uptoBulkAll {H : Type} : List (DataW H) → Nat
  | [] => 0
  | d :: r => uptoBulk d + uptoBulkAll r
def uptoBulkEntries {H : Type} : List (Lit × DataW H) → Nat
  | [] => 0
  | x :: r => uptoBulkEntry x + uptoBulkEntries r
def uptoBulkEntry {H : Type} : Lit × DataW H → Nat
  | (.string bytes, d) => bytes.length + uptoBulk d + 1
  | (_, d) => uptoBulk d + 1
 end
def uptoSmall : (H : Type) → List (DataW H) → Bool := fun _ ds => decide (uptoBulkAll ds ≤ 1048576)
def OpenSpec.upto (s : _root_.Go.ChangeSpec) : _root_.Go.OpenSpec := { _root_.Go.OpenSpec.ofChange s with cond := some uptoSmall }

/-- 'n008_31.FnSetContextLastWinsKeepsOthers', WHERE WHAT IT READS IS OF BULK AT MOST 1048576: true; the input reads as it did. -/
def fnSetContextLastWinsKeepsOthersUptoRow : OpenClaim := { program := "ytgeomhefpofjjaa", sum := "9121be318f940244f165476bc2ed35d43ecc8d9de38e5f68a92bc7a81ebf5b18", func := "github.com/google/go-jsonnet/n008_31.FnSetContextLastWinsKeepsOthers", spec := "fnSetContextLastWinsKeepsOthers", apart := false, narrowed := true }
def FnSetContextLastWinsKeepsOthersUptoSaid : Prop := fnSetContextLastWinsKeepsOthersUptoRow.holds Try.pinned (OpenSpec.upto fnSetContextLastWinsKeepsOthersSpec)

/-- 'n008_31.FnSetContextThenContext', WHERE WHAT IT READS IS OF BULK AT MOST 1048576: true; the input reads as it did. -/
def fnSetContextThenContextUptoRow : OpenClaim := { program := "ytgeomhefpofjjaa", sum := "9121be318f940244f165476bc2ed35d43ecc8d9de38e5f68a92bc7a81ebf5b18", func := "github.com/google/go-jsonnet/n008_31.FnSetContextThenContext", spec := "fnSetContextThenContext", apart := false, narrowed := true }
def FnSetContextThenContextUptoSaid : Prop := fnSetContextThenContextUptoRow.holds Try.pinned (OpenSpec.upto fnSetContextThenContextSpec)

/-- 'n008_31.FnSetFreeVariablesThenFreeVariables', WHERE WHAT IT READS IS OF BULK AT MOST 1048576: true; the input reads as it did. -/
def fnSetFreeVariablesThenFreeVariablesUptoRow : OpenClaim := { program := "ytgeomhefpofjjaa", sum := "9121be318f940244f165476bc2ed35d43ecc8d9de38e5f68a92bc7a81ebf5b18", func := "github.com/google/go-jsonnet/n008_31.FnSetFreeVariablesThenFreeVariables", spec := "fnSetFreeVariablesThenFreeVariables", apart := false, narrowed := true }
def FnSetFreeVariablesThenFreeVariablesUptoSaid : Prop := fnSetFreeVariablesThenFreeVariablesUptoRow.holds Try.pinned (OpenSpec.upto fnSetFreeVariablesThenFreeVariablesSpec)

/-- 'n008_31.FnSetFreeVariablesLastWriteWins', WHERE WHAT IT READS IS OF BULK AT MOST 1048576: true; the input reads as it did. -/
def fnSetFreeVariablesLastWriteWinsUptoRow : OpenClaim := { program := "ytgeomhefpofjjaa", sum := "9121be318f940244f165476bc2ed35d43ecc8d9de38e5f68a92bc7a81ebf5b18", func := "github.com/google/go-jsonnet/n008_31.FnSetFreeVariablesLastWriteWins", spec := "fnSetFreeVariablesLastWriteWins", apart := false, narrowed := true }
def FnSetFreeVariablesLastWriteWinsUptoSaid : Prop := fnSetFreeVariablesLastWriteWinsUptoRow.holds Try.pinned (OpenSpec.upto fnSetFreeVariablesLastWriteWinsSpec)

end Rows
end Go.Proofs.Ytgeomhefpofjjaa
