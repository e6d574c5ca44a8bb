/- The bound function of FnLocRangeBetweenNodes: some bool; true tells that every list and string is short. (Written by wip/genb.py.) -/
import Derived.Test.YtdmlaofjckopgaaCommon
import Derived.Test.YtdmlaofjckopgaaChecked
namespace Go.Proofs.Ytdmlaofjckopgaa.fnLocRangeBetweenNodes
open Go.ChangeShapes Go.WideShapes Go.ChangeAt Go.RowKit
set_option linter.unusedVariables false

set_option maxHeartbeats 1600000 in
theorem bytes_any (a0 : ByteArray) (a1 : Int) (a2 : Int) (a3 : Int) (a4 : Int) (a5 : ByteArray) (a6 : Int) (a7 : Int) (a8 : Int) (a9 : Int) (w : World) (w0 : a0.size ≤ maxLen) (w5 : a5.size ≤ maxLen) :
    Calls Try.prog 8 #[.string a0, .int .i64 a1, .int .i64 a2, .int .i64 a3, .int .i64 a4, .string a5, .int .i64 a6, .int .i64 a7, .int .i64 a8, .int .i64 a9] w (BoolIf (a0.size ≤ 1048576 ∧ a5.size ≤ 1048576) w) := by
  unfold maxLen at w0
  unfold maxLen at w5
  go_enter Try.func8, Try.ntmps8
  go_wp2
  all_goals try (go_ret; exact BoolIf.no)
  all_goals (go_ret; refine BoolIf.yes ?_; (repeat' apply And.intro) <;> first | trivial | assumption | omega)
end Go.Proofs.Ytdmlaofjckopgaa.fnLocRangeBetweenNodes
