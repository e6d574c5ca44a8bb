/- MakeLocationRangeMessage hands back the range with that file name and nothing else. -/
import Derived.Test.YtdmlaofjckopgaaCommon
import Derived.Test.YtdmlaofjckopgaaChecked
import Derived.Deep.QuietTactic
import Derived.BigQuiet
import Derived.Outline
namespace Go.Proofs.Ytdmlaofjckopgaa
open Go.ChangeShapes Go.WideShapes Go.ChangeAt Go.RowKit
set_option linter.unusedVariables false

theorem mkMsg_any (s : ByteArray) (w : World) :
    Calls Try.prog 22 #[.string s] w fun e w' =>
      e = .returned (.agg #[.pointer none, .string s, .int .i64 0, .int .i64 0, .int .i64 0, .int .i64 0]) ∧ Below w.heap.size w w' := by
  go_enter Try.func22, Try.ntmps22
  go_wp2
  refine bodyPost_ret (v := .agg #[.pointer none, .string s, .int .i64 0, .int .i64 0, .int .i64 0, .int .i64 0]) (by simp [results, Try.results22, go_sem]) rfl ⟨rfl, ?_⟩
  repeat (first | exact Below.refl _ _ | assumption | refine below_drewN ?_ _ | refine Below.drew ?_ | refine below_alloc ?_ _ | refine below_set ?_ (by simp <;> omega) _ | refine below_trans ?_ (by assumption))
end Go.Proofs.Ytdmlaofjckopgaa
