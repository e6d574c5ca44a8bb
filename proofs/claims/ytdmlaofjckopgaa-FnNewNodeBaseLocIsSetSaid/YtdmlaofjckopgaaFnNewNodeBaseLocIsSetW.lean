/- The walk of FnNewNodeBaseLocIsSet. -/
import Derived.Test.YtdmlaofjckopgaaFnNewNodeBaseLocIsSetB
import Derived.Test.YtdmlaofjckopgaaCMkloc25
import Derived.Test.YtdmlaofjckopgaaCNewNode
import Derived.Test.YtdmlaofjckopgaaCMakeLocationRangeMessage
namespace Go.Proofs.Ytdmlaofjckopgaa.fnNewNodeBaseLocIsSet
open Go.ChangeShapes Go.WideShapes Go.ChangeAt Go.RowKit
set_option linter.unusedVariables false

set_option maxHeartbeats 800000 in
theorem walk (a0 : ByteArray) (a1 : Int) (a2 : Int) (a3 : Int) (a4 : Int) (w : World) (w0 : a0.size ≤ maxLen) (w1 : (Lit.int .i64 a1).wf = true) (w2 : (Lit.int .i64 a2).wf = true) (w3 : (Lit.int .i64 a3).wf = true) (w4 : (Lit.int .i64 a4).wf = true) :
    Calls Try.prog 6 #[.string a0, .int .i64 a1, .int .i64 a2, .int .i64 a3, .int .i64 a4] w fun e w' => e = .returned (.bool true) ∧ Below w.heap.size w w' := by
  clear w1 w2 w3 w4
  have hm0 := w0
  unfold maxLen at hm0
  cases hz : (a1 == 0)
  all_goals
    have hz' : (a1 != 0) = !(a1 == 0) := rfl
    rw [hz] at hz'
    go_enter Try.func6, Try.ntmps6
    go_wp2_with fail
    refine (bytes_any _ _ _ _ _ _ w0).mono ?_
    rintro e w' ⟨r, rfl, hr, rfl⟩
    cases r
    · go_wp2_with fail
      go_ret
      exact ⟨rfl, Below.refl _ _⟩
    clear hr
    go_wp2_with fail
    · go_ret
      exact ⟨rfl, Below.refl _ _⟩
    refine (mkLoc_any _ _ _ _ _ _).mono ?_
    rintro e w2 ⟨rfl, hb2⟩
    go_wp2_with fail
    refine (newNodeLoc_any _ _ _ _ _ _ _ _ _ _).mono ?_
    rintro e w3 ⟨x, rfl, hb3⟩
    have hbel3 := below_trans hb2 hb3
    clear hb2 hb3
    go_wp2_with (first | (go_at_call 12; go_in) | (go_at_call 13; go_in) | (go_at_call 21; go_in) | (go_at_call 31; go_in))
    refine (mkMsg_any _ _).mono ?_
    rintro e w4 ⟨rfl, hb4⟩
    have hbel4 := below_trans (below_alloc hbel3 _) hb4
    clear hb4 hbel3
    go_wp2_with fail
    refine (newNodeLoc_any _ _ _ _ _ _ _ _ _ _).mono ?_
    rintro e w5 ⟨y, rfl, hb5⟩
    have hbel5 := below_trans hbel4 hb5
    clear hb5 hbel4
    go_wp2_with (first | (go_at_call 12; go_in) | (go_at_call 13; go_in) | (go_at_call 21; go_in) | (go_at_call 31; go_in))
    go_ret
    exact ⟨rfl, by repeat (first | exact Below.refl _ _ | assumption | refine below_drewN ?_ _ | refine Below.drew ?_ | refine below_alloc ?_ _ | refine below_set ?_ (by simp <;> omega) _ | refine below_trans ?_ (by assumption))⟩
end Go.Proofs.Ytdmlaofjckopgaa.fnNewNodeBaseLocIsSet
