/- ToSlice of a nil set: an empty slice. -/
import Derived.Test.YtheamgcjnpljfaaCommon
import Derived.Laws.IdiomRangeMap
import Derived.Maps.RangeWalk
import Derived.Test.YtheamgcjnpljfaaChecked
namespace Go.Proofs.Ytheamgcjnpljfaa
open Go.ChangeShapes Go.WideShapes Go.ChangeAt Go.RowKit
set_option linter.unusedVariables false

set_option maxHeartbeats 400000 in
theorem toSlice_nil (w : World) : Calls Try.prog 23 #[.map none] w fun e w' => e = .returned (.slice (some ⟨w.heap.size, 0, none⟩) 0 0) ∧ Below w.heap.size w w' := by
  have hmk : ∀ w : World, (Instr.makeSlice 44 (.int .i64 0) (.int .i64 0)).run Try.prog w = .ok (.slice (some ⟨w.heap.size, 0, none⟩) 0 0) (w.alloc (.cells (emptyA 0) 42)) := make_strs (P := Try.prog) Try.underlying44 (e := 42) (by kernel_rfl) 0 (by omega)
  have hrg := run_range_nilMap (P := Try.prog) (w.alloc (.cells (emptyA 0) 42)) 40 42 47 Try.underlying40
  have hnx : ∀ ty, (Instr.next (.pointer (some ⟨(w.alloc (.cells (emptyA 0) 42)).heap.size, 0, none⟩)) false ty).run Try.prog ((w.alloc (.cells (emptyA 0) 42)).alloc (.mapIter none 0 #[] 0)) = _ := fun ty => run_next_nilMap _ ty 0 0 #[]
  have e1 : (w.alloc (.cells (emptyA 0) 42)).heap.size = w.heap.size + 1 := by simp
  rw [e1] at hrg hnx
  go_enter Try.func23, Try.ntmps23
  go_wp2
  refine wp_loop_rounds 1 ?_
  rw [rounds_succ]
  go_wp2
  go_ret
  exact ⟨rfl, below_alloc (below_alloc (Below.refl _ _) _) _⟩
end Go.Proofs.Ytheamgcjnpljfaa
