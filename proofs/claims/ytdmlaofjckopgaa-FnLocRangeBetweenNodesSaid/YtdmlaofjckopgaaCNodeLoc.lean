/- The methods of NodeBase, over a block that is known whole. -/
import Derived.Test.YtdmlaofjckopgaaCommon
import Derived.Test.YtdmlaofjckopgaaChecked
namespace Go.Proofs.Ytdmlaofjckopgaa
open Go.ChangeShapes Go.WideShapes Go.ChangeAt Go.RowKit
set_option linter.unusedVariables false

theorem loc_any (g : Nat) (w : World) :
    Calls Try.prog 12 #[.pointer (some ⟨g, 0, none⟩)] w fun e w' => e = .returned (.pointer (some ⟨g, 3, none⟩)) ∧ w = w' := by
  go_enter Try.func12, Try.ntmps12
  go_wp2
  go_ret
  exact ⟨rfl, rfl⟩
theorem loc_same (g : Nat) (w : World) :
    Calls Try.prog 12 #[.pointer (some ⟨g, 0, none⟩)] w fun e w' => e = .returned (.pointer (some ⟨g, 3, none⟩)) ∧ w' = w := (loc_any g w).mono fun _ _ ⟨he, hw⟩ => ⟨he, hw.symm⟩
end Go.Proofs.Ytdmlaofjckopgaa
