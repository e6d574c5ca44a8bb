/-
  No cell of these rows narrows 'for every input' (looked for: loops, veiled, ifaces, maps, wideKeys, modest, calm, conditions, laid).
  DERIVED. THE GIVEN ROWS OF THIS SEAT. 2 by the template 'for every input the law returns true; each argument reads behind the call as it read before'; 0 by the template 'total and deterministic' (their statements: YtmmhdaepejdpmaaTotals.lean).
  GIVEN WITH THE SEED: the statements are not yours to turn. If you find one false, say at which input.
  Laid BY PROGRAM, IN A SANDBOX (cutbox-rows.mjs): the forced cells as the released guide's own fill.sh prints them over the translation 326b8c4e8c37a8bb… (all of the seat's roots in one cut). By AI agents, Wed Nov 11 2026. No macro, syntax, notation, axiom, sorry.
-/
import Derived.Test.YtmmhdaepejdpmaaChecked
import GoSem.Claim
import GoSem.ClaimJoined
import GoSem.ClaimMapViews
import Derived.JoinedTies
import Derived.KernelRfl
namespace Go.Proofs.Ytmmhdaepejdpmaa
/- THE CELL 'sum', in the pinned program and in every row, IS THE sha256 OF THE DUMP (.gsa) THAT YtmmhdaepejdpmaaProg.lean LOADS. Nothing in Lean hashes anything: it is a label: what it is worth is what the hold of that sum in a sandbox is worth. -/
noncomputable def Try.pinned : Pinned := { name := "ytmmhdaepejdpmaa", sum := "326b8c4e8c37a8bb3b40b052103a328024773e9cba89e87804bfd2017ddea87e", checked := Try.checked }
namespace Rows
def none {H : Type} : Left H := { results := [], args := [] }

/-- 'n008_19.FnCloneNodeBaseSpec': WHATEVER THE INPUT: true; the input reads as it did. -/
def fnCloneNodeBaseSpecSpec : ChangeSpec := { name := "fnCloneNodeBaseSpec", fn := fun _ => fun
  | [d1, d2, d3, d4, d5, d6] => { results := [.lit (.bool true)], args := [d1, d2, d3, d4, d5, d6] }
  | _ => none }
def fnCloneNodeBaseSpecRow : OpenClaim := { program := "ytmmhdaepejdpmaa", sum := "326b8c4e8c37a8bb3b40b052103a328024773e9cba89e87804bfd2017ddea87e", func := "github.com/google/go-jsonnet/n008_19.FnCloneNodeBaseSpec", spec := "fnCloneNodeBaseSpec", unfollowed := true, recurses := true, apart := false }
def FnCloneNodeBaseSpecSaid : Prop := fnCloneNodeBaseSpecRow.holds Try.pinned (OpenSpec.ofChange fnCloneNodeBaseSpecSpec)

/-- ITS FALSE NEIGHBOUR: 'it returns false'. Refute it at one input. -/
def fnCloneNodeBaseSpecWrong : ChangeSpec := { name := "fnCloneNodeBaseSpec", fn := fun _ => fun
  | [d1, d2, d3, d4, d5, d6] => { results := [.lit (.bool false)], args := [d1, d2, d3, d4, d5, d6] }
  | _ => none }
def FnCloneNodeBaseSpecWrongFalsely : Prop := fnCloneNodeBaseSpecRow.holds Try.pinned (OpenSpec.ofChange fnCloneNodeBaseSpecWrong)

/-- 'n008_19.FnCloneNodeBaseDetached': WHATEVER THE INPUT: true; the input reads as it did. -/
def fnCloneNodeBaseDetachedSpec : ChangeSpec := { name := "fnCloneNodeBaseDetached", fn := fun _ => fun
  | [d1, d2, d3] => { results := [.lit (.bool true)], args := [d1, d2, d3] }
  | _ => none }
def fnCloneNodeBaseDetachedRow : OpenClaim := { program := "ytmmhdaepejdpmaa", sum := "326b8c4e8c37a8bb3b40b052103a328024773e9cba89e87804bfd2017ddea87e", func := "github.com/google/go-jsonnet/n008_19.FnCloneNodeBaseDetached", spec := "fnCloneNodeBaseDetached", unfollowed := true, recurses := true, apart := false }
def FnCloneNodeBaseDetachedSaid : Prop := fnCloneNodeBaseDetachedRow.holds Try.pinned (OpenSpec.ofChange fnCloneNodeBaseDetachedSpec)

/-- ITS FALSE NEIGHBOUR: 'it returns false'. Refute it at one input. -/
def fnCloneNodeBaseDetachedWrong : ChangeSpec := { name := "fnCloneNodeBaseDetached", fn := fun _ => fun
  | [d1, d2, d3] => { results := [.lit (.bool false)], args := [d1, d2, d3] }
  | _ => none }
def FnCloneNodeBaseDetachedWrongFalsely : Prop := fnCloneNodeBaseDetachedRow.holds Try.pinned (OpenSpec.ofChange fnCloneNodeBaseDetachedWrong)

/- THE SECOND FORM. 'bulk': how many values and letters a reading holds, each counted each time it is reached (what is shared counts as often as it is met; a slice's spare places count too). A statement '..UptoSaid' is the law's where the arguments, and the package variables that the reading takes, are together of bulk at most 1048576: NARROWER than '..Said'. Prove '..Said' where nothing that the law and all that it calls make is longer than what came in: it says more and counts as full. Else prove '..UptoSaid'. A law counts once. -/
mutual
def uptoBulk {H : Type} : DataW H → Nat
  | .lit (.string bytes) => bytes.length + 1
  | .lit _ => 1
  | .nil => 1
  | .ptr d => uptoBulk d + 1
  | .slice elems spare => uptoBulkAll elems + uptoBulkAll spare + 1
  | .agg parts => uptoBulkAll parts + 1
  | .iface _ d => uptoBulk d + 1
  | .map entries => uptoBulkEntries entries + 1
  | .held _ => 1
def uptoBulkAll {H : Type} : List (DataW H) → Nat
  | [] => 0
  | d :: r => uptoBulk d + uptoBulkAll r
def uptoBulkEntries {H : Type} : List (Lit × DataW H) → Nat
  | [] => 0
  | x :: r => uptoBulkEntry x + uptoBulkEntries r
def uptoBulkEntry {H : Type} : Lit × DataW H → Nat
  | (.string bytes, d) => bytes.length + uptoBulk d + 1
  | (_, d) => uptoBulk d + 1
 end
def uptoSmall : (H : Type) → List (DataW H) → Bool := fun _ ds => decide (uptoBulkAll ds ≤ 1048576)
def OpenSpec.upto (s : _root_.Go.ChangeSpec) : _root_.Go.OpenSpec := { _root_.Go.OpenSpec.ofChange s with cond := some uptoSmall }

/-- 'n008_19.FnCloneNodeBaseSpec', WHERE WHAT IT READS IS OF BULK AT MOST 1048576: true; the input reads as it did. -/
def fnCloneNodeBaseSpecUptoRow : OpenClaim := { program := "ytmmhdaepejdpmaa", sum := "326b8c4e8c37a8bb3b40b052103a328024773e9cba89e87804bfd2017ddea87e", func := "github.com/google/go-jsonnet/n008_19.FnCloneNodeBaseSpec", spec := "fnCloneNodeBaseSpec", unfollowed := true, recurses := true, apart := false, narrowed := true }
def FnCloneNodeBaseSpecUptoSaid : Prop := fnCloneNodeBaseSpecUptoRow.holds Try.pinned (OpenSpec.upto fnCloneNodeBaseSpecSpec)

/-- 'n008_19.FnCloneNodeBaseDetached', WHERE WHAT IT READS IS OF BULK AT MOST 1048576: true; the input reads as it did. -/
def fnCloneNodeBaseDetachedUptoRow : OpenClaim := { program := "ytmmhdaepejdpmaa", sum := "326b8c4e8c37a8bb3b40b052103a328024773e9cba89e87804bfd2017ddea87e", func := "github.com/google/go-jsonnet/n008_19.FnCloneNodeBaseDetached", spec := "fnCloneNodeBaseDetached", unfollowed := true, recurses := true, apart := false, narrowed := true }
def FnCloneNodeBaseDetachedUptoSaid : Prop := fnCloneNodeBaseDetachedUptoRow.holds Try.pinned (OpenSpec.upto fnCloneNodeBaseDetachedSpec)

end Rows
end Go.Proofs.Ytmmhdaepejdpmaa
