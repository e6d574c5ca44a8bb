/- String of a range that is not set is its file name. -/
import Derived.Test.YtknddhjbhpchdaaFmtCommon
import Derived.Test.YtknddhjbhpchdaaFmtChecked
namespace Go.Proofs.YtknddhjbhpchdaaFmt
open Go.ChangeShapes Go.WideShapes Go.ChangeAt Go.RowKit
set_option linter.unusedVariables false

theorem rstr_unset (g : Nat) (s : ByteArray) (w : World) (h1 : w.cell? ⟨g, 1, none⟩ = some (.string s)) (h2 : w.cell? ⟨g, 2, none⟩ = some (.int .i64 0)) :
    Calls Tryf.prog 7 #[.pointer (some ⟨g, 0, none⟩)] w fun e w' => e = .returned (.string s) ∧ w = w' := by
  go_enter Tryf.func7, Tryf.ntmps7
  go_wp2
  go_ret
  exact ⟨rfl, rfl⟩
end Go.Proofs.YtknddhjbhpchdaaFmt
