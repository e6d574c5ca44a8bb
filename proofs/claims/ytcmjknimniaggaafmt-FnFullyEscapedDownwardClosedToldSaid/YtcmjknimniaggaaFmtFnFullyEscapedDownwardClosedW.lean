/- The walk of FnFullyEscapedDownwardClosed. -/
import Derived.Test.YtcmjknimniaggaaFmtCommon
import Derived.Test.YtcmjknimniaggaaFmtChecked
namespace Go.Proofs.YtcmjknimniaggaaFmt.fnFullyEscapedDownwardClosed
open Go.ChangeShapes Go.WideShapes Go.ChangeAt Go.RowKit
set_option linter.unusedVariables false

theorem full_yes (k : Int) (w : World) (h0 : 0 ≤ k) (h1 : k ≤ 1) :
    Calls Tryf.prog 5 #[.int .i64 k] w fun e w' => e = .returned (.bool true) ∧ w = w' := by
  have h : k = 0 ∨ k = 1 := by omega
  clear h0 h1
  rcases h with rfl | rfl
  all_goals
    go_enter Tryf.func5, Tryf.ntmps5
    go_wp2
    go_ret
    exact ⟨rfl, rfl⟩

theorem full_no (k : Int) (w : World) (h0 : 2 ≤ k) (h1 : k ≤ 4) :
    Calls Tryf.prog 5 #[.int .i64 k] w fun e w' => e = .returned (.bool false) ∧ w = w' := by
  have h : k = 2 ∨ k = 3 ∨ k = 4 := by omega
  clear h0 h1
  rcases h with rfl | rfl | rfl
  all_goals
    go_enter Tryf.func5, Tryf.ntmps5
    go_wp2
    go_ret
    exact ⟨rfl, rfl⟩

theorem walk (a0 : Int) (a1 : Int) (w : World) (w0 : (Lit.int .i64 a0).wf = true) (w1 : (Lit.int .i64 a1).wf = true) :
    Calls Tryf.prog 4 #[.int .i64 a0, .int .i64 a1] w fun e w' => e = .returned (.bool true) ∧ Below w.heap.size w w' := by
  clear w0 w1
  by_cases h1 : a0 < 0
  · go_enter Tryf.func4, Tryf.ntmps4
    go_wp2
    go_ret
    exact ⟨rfl, Below.refl _ _⟩
  by_cases h2 : 4 < a0
  · go_enter Tryf.func4, Tryf.ntmps4
    go_wp2
    go_ret
    exact ⟨rfl, Below.refl _ _⟩
  by_cases h3 : a1 < 0
  · go_enter Tryf.func4, Tryf.ntmps4
    go_wp2
    go_ret
    exact ⟨rfl, Below.refl _ _⟩
  by_cases h4 : 4 < a1
  · go_enter Tryf.func4, Tryf.ntmps4
    go_wp2
    go_ret
    exact ⟨rfl, Below.refl _ _⟩
  by_cases h5 : a1 < a0
  · by_cases h6 : a0 ≤ 1
    · go_enter Tryf.func4, Tryf.ntmps4
      go_wp2_with (go_at_call 5; refine (full_yes _ _ (by omega) (by omega)).mono ?_; rintro e w' ⟨rfl, rfl⟩)
      go_ret
      exact ⟨rfl, Below.refl _ _⟩
    · go_enter Tryf.func4, Tryf.ntmps4
      go_wp2_with (go_at_call 5; refine (full_no _ _ (by omega) (by omega)).mono ?_; rintro e w' ⟨rfl, rfl⟩)
      go_ret
      exact ⟨rfl, Below.refl _ _⟩
  · by_cases h6 : a1 ≤ 1
    · go_enter Tryf.func4, Tryf.ntmps4
      go_wp2_with (go_at_call 5; refine (full_yes _ _ (by omega) (by omega)).mono ?_; rintro e w' ⟨rfl, rfl⟩)
      go_ret
      exact ⟨rfl, Below.refl _ _⟩
    · go_enter Tryf.func4, Tryf.ntmps4
      go_wp2_with (go_at_call 5; refine (full_no _ _ (by omega) (by omega)).mono ?_; rintro e w' ⟨rfl, rfl⟩)
      go_ret
      exact ⟨rfl, Below.refl _ _⟩
end Go.Proofs.YtcmjknimniaggaaFmt.fnFullyEscapedDownwardClosed
