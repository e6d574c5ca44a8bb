/- The walk of FnSetContextThenContext. -/
import Derived.Test.YtgeomhefpofjjaaFnSetContextThenContextB
namespace Go.Proofs.Ytgeomhefpofjjaa.fnSetContextThenContext
open Go.ChangeShapes Go.WideShapes Go.ChangeAt Go.RowKit
set_option linter.unusedVariables false

set_option maxHeartbeats 800000 in
theorem walk (a0 : Bool) (a1 : ByteArray) (w : World) (w1 : a1.size ≤ maxLen) :
    Calls Try.prog 4 #[.bool a0, .string a1] w fun e w' => e = .returned (.bool true) ∧ Below w.heap.size w w' := by
  have hm := w1
  unfold maxLen at hm
  have hnq := fun W => run_neq_slice_nil_any (P := Try.prog) W 31 46 none 0 0 0 0 Try.underlying31
  have hpp := fun W => neq_ptr_same (P := Try.prog) W (tp := 29) (n := 1) ⟨w.heap.size + 1, 0, none⟩ Try.underlying29 (by kernel_rfl)
  cases a0
  all_goals
    go_enter Try.func4, Try.ntmps4
    go_wp2_with fail
    refine (bytes_any _ _ _ w1).mono ?_
    rintro e w' ⟨r, rfl, hr, rfl⟩
    cases r
    · go_wp2_with fail
      go_ret
      exact ⟨rfl, Below.refl _ _⟩
    clear hr
    go_wp2
    · go_ret
      exact ⟨rfl, Below.refl _ _⟩
    go_end0
    go_wp2
    go_end0
    go_wp2
    go_ret
    exact ⟨rfl, by repeat (first | exact Below.refl _ _ | assumption | refine below_drewN ?_ _ | refine Below.drew ?_ | refine below_alloc ?_ _ | refine below_set ?_ (by simp <;> omega) _ | refine below_trans ?_ (by assumption))⟩
end Go.Proofs.Ytgeomhefpofjjaa.fnSetContextThenContext
