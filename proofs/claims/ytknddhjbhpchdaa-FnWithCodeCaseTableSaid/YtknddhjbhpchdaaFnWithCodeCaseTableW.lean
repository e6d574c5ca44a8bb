/- The walk of FnWithCodeCaseTable. -/
import Derived.Test.YtknddhjbhpchdaaCMakeLocationRange
import Derived.Test.YtknddhjbhpchdaaChecked
import Derived.Deep.QuietTactic
import Derived.BigQuiet
import Derived.Outline
namespace Go.Proofs.Ytknddhjbhpchdaa.fnWithCodeCaseTable
open Go.ChangeShapes Go.WideShapes Go.ChangeAt Go.RowKit
set_option linter.unusedVariables false

theorem bytes_any (a0 : ByteArray) (a1 : Bool) (a2 : ByteArray) (a3 a4 a5 a6 : Int) (w : World) (ha : a0.size ≤ maxLen) (hb : a2.size ≤ maxLen) :
    Calls Try.prog 4 #[.string a0, .bool a1, .string a2, .int .i64 a3, .int .i64 a4, .int .i64 a5, .int .i64 a6] w fun e w' => (∃ r, e = .returned (.bool r)) ∧ w = w' := by
  unfold maxLen at ha hb
  go_enter Try.func4, Try.ntmps4
  go_wp2
  all_goals go_ret
  all_goals exact ⟨⟨_, rfl⟩, rfl⟩

set_option maxHeartbeats 400000 in
theorem walk (a0 : ByteArray) (a1 : Bool) (a2 : ByteArray) (a3 : Int) (a4 : Int) (a5 : Int) (a6 : Int) (w : World) (w0 : a0.size ≤ maxLen) (w2 : a2.size ≤ maxLen) (w3 : (Lit.int .i64 a3).wf = true) (w4 : (Lit.int .i64 a4).wf = true) (w5 : (Lit.int .i64 a5).wf = true) (w6 : (Lit.int .i64 a6).wf = true) :
    Calls Try.prog 3 #[.string a0, .bool a1, .string a2, .int .i64 a3, .int .i64 a4, .int .i64 a5, .int .i64 a6] w fun e w' => e = .returned (.bool true) ∧ Below w.heap.size w w' := by
  clear w3 w4 w5 w6
  unfold maxLen at w0 w2
  cases a1
  all_goals
    cases hz : (a3 == 0)
    all_goals
      have hz' : (a3 != 0) = !(a3 == 0) := rfl
      rw [hz] at hz'
      go_enter Try.func3, Try.ntmps3
      go_wp2_with fail
      refine (bytes_any _ _ _ _ _ _ _ _ w0 w2).mono ?_
      rintro e w' ⟨⟨r, rfl⟩, rfl⟩
      cases r
      · go_wp2
        go_ret
        exact ⟨rfl, Below.refl _ _⟩
      go_wp2_with (first | (go_at_call 6; refine (mkRange_any _ _ _ _ _ _ _).mono ?_; rintro e w1 ⟨rfl, hb⟩) | go_in)
      all_goals go_ret
      all_goals exact ⟨rfl, by repeat (first | exact Below.refl _ _ | assumption | refine below_drewN ?_ _ | refine Below.drew ?_ | refine below_alloc ?_ _ | refine below_set ?_ (by simp <;> omega) _ | refine below_trans ?_ (by assumption))⟩
end Go.Proofs.Ytknddhjbhpchdaa.fnWithCodeCaseTable
