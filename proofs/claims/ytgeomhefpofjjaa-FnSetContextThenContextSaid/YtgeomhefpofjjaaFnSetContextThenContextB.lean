/- The bound function of FnSetContextThenContext: some bool; true tells that every list and string is short. (Written by wip/genb.py.) -/
import Derived.Test.YtgeomhefpofjjaaCommon
import Derived.Test.YtgeomhefpofjjaaChecked
namespace Go.Proofs.Ytgeomhefpofjjaa.fnSetContextThenContext
open Go.ChangeShapes Go.WideShapes Go.ChangeAt Go.RowKit
set_option linter.unusedVariables false

set_option maxHeartbeats 1600000 in
theorem bytes_any (a0 : Bool) (a1 : ByteArray) (w : World) (w1 : a1.size ≤ maxLen) :
    Calls Try.prog 15 #[.bool a0, .string a1] w (BoolIf (a1.size ≤ 1048576) w) := by
  unfold maxLen at w1
  go_enter Try.func15, Try.ntmps15
  go_wp2
  all_goals try (go_ret; exact BoolIf.no)
  all_goals (go_ret; refine BoolIf.yes ?_; (repeat' apply And.intro) <;> first | trivial | assumption | omega)
end Go.Proofs.Ytgeomhefpofjjaa.fnSetContextThenContext
