/- The bound function of FnSetContextLastWinsKeepsOthers: some bool; true tells that every list and string is short. (Written by wip/genb.py.) -/
import Derived.Test.YtgeomhefpofjjaaCommon
import Derived.Test.YtgeomhefpofjjaaChecked
namespace Go.Proofs.Ytgeomhefpofjjaa.fnSetContextLastWinsKeepsOthers
open Go.ChangeShapes Go.WideShapes Go.ChangeAt Go.RowKit
set_option linter.unusedVariables false

set_option maxHeartbeats 1600000 in
theorem bytes_any (a0 : ByteArray) (a1 : ByteArray) (a2 : Bool) (a3 : Option Addr) (len3 cap3 : Nat) (s3 : List ByteArray) (w : World) (w0 : a0.size ≤ maxLen) (w1 : a1.size ≤ maxLen) (w3 : IsStrs w a3 len3 cap3 s3) :
    Calls Try.prog 7 #[.string a0, .string a1, .bool a2, .slice a3 len3 cap3] w (BoolIf (a0.size ≤ 1048576 ∧ a1.size ≤ 1048576 ∧ len3 ≤ 1048576) w) := by
  unfold maxLen at w0
  unfold maxLen at w1
  have hm3 : len3 ≤ 9223372036854775807 := by have := w3.lecap; have := w3.capmax; unfold maxLen at this; omega
  go_enter Try.func7, Try.ntmps7
  go_wp2
  all_goals try (go_ret; exact BoolIf.no)
  have hl3 : len3 ≤ 1048576 := by omega
  go_loop [9, 10] (fun n i => ∃ (k : Nat) (z : Int), k ≤ len3 ∧ i = .int .i64 k ∧ 0 ≤ z ∧ z ≤ 1048576 ∧ n = .int .i64 z) (fun _ i => len3 - (intOf i).toNat)
  case atStart => exact ⟨0, _, Nat.zero_le _, rfl, by omega, by omega, rfl⟩
  case round =>
    obtain ⟨k3, z3, hk3, rfl, hza3, hzb3, rfl⟩ := hrel
    by_cases hlt3 : k3 < len3
    · obtain ⟨b, off, s, rfl, hblt, hs, hsz, hcell⟩ := w3.at_ hlt3
      have Hs := Lib.hid hs
      clear hs
      unfold maxLen at hsz
      go_wp2
      all_goals try (go_ret; exact BoolIf.no)
      all_goals exact ⟨⟨k3 + 1, _, by omega, by go_num, by omega, by omega, rfl⟩, by simp [intOf]; omega⟩
    go_wp2
    all_goals try (go_ret; exact BoolIf.no)
    all_goals (go_ret; refine BoolIf.yes ?_; (repeat' apply And.intro) <;> first | trivial | assumption | omega)
end Go.Proofs.Ytgeomhefpofjjaa.fnSetContextLastWinsKeepsOthers
