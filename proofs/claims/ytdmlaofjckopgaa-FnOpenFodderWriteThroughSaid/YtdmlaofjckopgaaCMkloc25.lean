/- mkLoc of the law's file. -/
import Derived.Test.YtdmlaofjckopgaaCommon
import Derived.Test.YtdmlaofjckopgaaChecked
import Derived.Deep.QuietTactic
import Derived.BigQuiet
import Derived.Outline
namespace Go.Proofs.Ytdmlaofjckopgaa
open Go.ChangeShapes Go.WideShapes Go.ChangeAt Go.RowKit
set_option linter.unusedVariables false

theorem mkLoc_any (s : ByteArray) (b0 b1 e0 e1 : Int) (w : World) :
    Calls Try.prog 10 #[.string s, .int .i64 b0, .int .i64 b1, .int .i64 e0, .int .i64 e1] w fun e w' =>
      e = .returned (.agg #[.pointer none, .string s, .int .i64 b0, .int .i64 b1, .int .i64 e0, .int .i64 e1]) ∧ Below w.heap.size w w' := by
  go_enter Try.func10, Try.ntmps10
  go_wp2
  refine bodyPost_ret (v := .agg #[.pointer none, .string s, .int .i64 b0, .int .i64 b1, .int .i64 e0, .int .i64 e1]) (by simp [results, Try.results10, go_sem]) rfl ⟨rfl, ?_⟩
  repeat (first | exact Below.refl _ _ | assumption | refine below_drewN ?_ _ | refine Below.drew ?_ | refine below_alloc ?_ _ | refine below_set ?_ (by simp <;> omega) _ | refine below_trans ?_ (by assumption))
end Go.Proofs.Ytdmlaofjckopgaa
