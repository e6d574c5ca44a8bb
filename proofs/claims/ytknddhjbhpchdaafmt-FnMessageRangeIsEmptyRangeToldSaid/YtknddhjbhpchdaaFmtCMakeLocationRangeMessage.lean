/- MakeLocationRangeMessage hands back the range with that file name and nothing else. -/
import Derived.Test.YtknddhjbhpchdaaFmtCommon
import Derived.Test.YtknddhjbhpchdaaFmtChecked
import Derived.Deep.QuietTactic
import Derived.BigQuiet
import Derived.Outline
namespace Go.Proofs.YtknddhjbhpchdaaFmt
open Go.ChangeShapes Go.WideShapes Go.ChangeAt Go.RowKit
set_option linter.unusedVariables false

theorem mkMsg_any (s : ByteArray) (w : World) :
    Calls Tryf.prog 6 #[.string s] w fun e w' =>
      e = .returned (.agg #[.pointer none, .string s, .int .i64 0, .int .i64 0, .int .i64 0, .int .i64 0]) ∧ Below w.heap.size w w' := by
  go_enter Tryf.func6, Tryf.ntmps6
  go_wp2
  refine bodyPost_ret (v := .agg #[.pointer none, .string s, .int .i64 0, .int .i64 0, .int .i64 0, .int .i64 0]) (by simp [results, Tryf.results6, go_sem]) rfl ⟨rfl, ?_⟩
  repeat (first | exact Below.refl _ _ | assumption | refine below_drewN ?_ _ | refine Below.drew ?_ | refine below_alloc ?_ _ | refine below_set ?_ (by simp <;> omega) _ | refine below_trans ?_ (by assumption))
end Go.Proofs.YtknddhjbhpchdaaFmt
