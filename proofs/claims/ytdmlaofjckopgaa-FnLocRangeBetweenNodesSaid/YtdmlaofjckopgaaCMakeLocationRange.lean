/- MakeLocationRange hands back the range of its four arguments. -/
import Derived.Test.YtdmlaofjckopgaaCommon
import Derived.Test.YtdmlaofjckopgaaChecked
import Derived.Deep.QuietTactic
import Derived.BigQuiet
import Derived.Outline
namespace Go.Proofs.Ytdmlaofjckopgaa
open Go.ChangeShapes Go.WideShapes Go.ChangeAt Go.RowKit
set_option linter.unusedVariables false

theorem mkRange_any (s : ByteArray) (f : Option Addr) (b0 b1 e0 e1 : Int) (w : World) :
    Calls Try.prog 30 #[.string s, .pointer f, .agg #[.int .i64 b0, .int .i64 b1], .agg #[.int .i64 e0, .int .i64 e1]] w fun e w' =>
      e = .returned (.agg #[.pointer f, .string s, .int .i64 b0, .int .i64 b1, .int .i64 e0, .int .i64 e1]) ∧ Below w.heap.size w w' := by
  go_enter Try.func30, Try.ntmps30
  go_wp2
  refine bodyPost_ret (v := .agg #[.pointer f, .string s, .int .i64 b0, .int .i64 b1, .int .i64 e0, .int .i64 e1]) (by simp [results, Try.results30, go_sem]) rfl ⟨rfl, ?_⟩
  repeat (first | exact Below.refl _ _ | assumption | refine below_drewN ?_ _ | refine Below.drew ?_ | refine below_alloc ?_ _ | refine below_set ?_ (by simp <;> omega) _ | refine below_trans ?_ (by assumption))
end Go.Proofs.Ytdmlaofjckopgaa
