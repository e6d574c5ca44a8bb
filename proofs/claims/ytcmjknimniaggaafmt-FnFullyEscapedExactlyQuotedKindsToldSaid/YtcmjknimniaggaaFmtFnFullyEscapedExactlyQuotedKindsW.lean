/- The walk of FnFullyEscapedExactlyQuotedKinds. -/
import Derived.Test.YtcmjknimniaggaaFmtCommon
import Derived.Test.YtcmjknimniaggaaFmtChecked
namespace Go.Proofs.YtcmjknimniaggaaFmt.fnFullyEscapedExactlyQuotedKinds
open Go.ChangeShapes Go.WideShapes Go.ChangeAt Go.RowKit
set_option linter.unusedVariables false
theorem walk (a0 : Int) (w : World) (w0 : (Lit.int .i64 a0).wf = true) :
    Calls Tryf.prog 3 #[.int .i64 a0] w fun e w' => e = .returned (.bool true) ∧ Below w.heap.size w w' := by
  clear w0
  by_cases h1 : a0 < 0
  · go_enter Tryf.func3, Tryf.ntmps3
    go_wp2
    go_ret
    exact ⟨rfl, Below.refl _ _⟩
  by_cases h2 : 4 < a0
  · go_enter Tryf.func3, Tryf.ntmps3
    go_wp2
    go_ret
    exact ⟨rfl, Below.refl _ _⟩
  have h : a0 = 0 ∨ a0 = 1 ∨ a0 = 2 ∨ a0 = 3 ∨ a0 = 4 := by omega
  clear h1 h2
  rcases h with rfl | rfl | rfl | rfl | rfl
  all_goals
    go_enter Tryf.func3, Tryf.ntmps3
    go_wp2
    go_ret
    exact ⟨rfl, Below.refl _ _⟩
end Go.Proofs.YtcmjknimniaggaaFmt.fnFullyEscapedExactlyQuotedKinds
