/- The bound function of FnInObjectFieldsChildrenSplit: some bool; true tells that every list and string is short. (Written by wip/genb.py.) -/
import Derived.Test.YteblhjodfhhfjaaCommon
import Derived.Test.YteblhjodfhhfjaaInts
import Derived.Test.YteblhjodfhhfjaaChecked
namespace Go.Proofs.Yteblhjodfhhfjaa.fnInObjectFieldsChildrenSplit
open Go.ChangeShapes Go.WideShapes Go.ChangeAt Go.RowKit
set_option linter.unusedVariables false

set_option maxRecDepth 20000 in
set_option maxHeartbeats 1600000 in
theorem bytes_any (a0 : Option Addr) (len0 cap0 : Nat) (z0 : List Int) (a1 : Int) (w : World) (w0 : IsInts .u8 w a0 len0 cap0 z0) :
    Calls Try.prog 4 #[.slice a0 len0 cap0, .int .i64 a1] w (BoolIf (len0 ≤ 1048576) w) := by
  have hm0 : len0 ≤ 9223372036854775807 := by have := w0.lecap; have := w0.capmax; unfold maxLen at this; omega
  go_enter Try.func4, Try.ntmps4
  go_wp2
  all_goals try (go_ret; exact BoolIf.no)
  all_goals (go_ret; refine BoolIf.yes ?_; (repeat' apply And.intro) <;> first | trivial | assumption | omega)
end Go.Proofs.Yteblhjodfhhfjaa.fnInObjectFieldsChildrenSplit
