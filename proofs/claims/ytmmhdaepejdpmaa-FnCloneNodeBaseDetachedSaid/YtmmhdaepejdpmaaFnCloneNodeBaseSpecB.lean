/- The bound function of FnCloneNodeBaseSpec: some bool; true tells that every list and string is short. (Written by wip/genb.py.) -/
import Derived.Test.YtmmhdaepejdpmaaCommon
import Derived.Test.YtmmhdaepejdpmaaChecked
namespace Go.Proofs.Ytmmhdaepejdpmaa.fnCloneNodeBaseSpec
open Go.ChangeShapes Go.WideShapes Go.ChangeAt Go.RowKit
set_option linter.unusedVariables false

set_option maxRecDepth 20000 in
set_option maxHeartbeats 1600000 in
theorem bytes_any (a0 : ByteArray) (a1 : Bool) (a2 : ByteArray) (a3 : Option Addr) (len3 cap3 : Nat) (s3 : List ByteArray) (a4 : Int) (a5 : Int) (w : World) (w0 : a0.size ≤ maxLen) (w2 : a2.size ≤ maxLen) (w3 : IsStrs w a3 len3 cap3 s3) :
    Calls Try.prog 5 #[.string a0, .bool a1, .string a2, .slice a3 len3 cap3, .int .i64 a4, .int .i64 a5] w (BoolIf (a0.size ≤ 1048576 ∧ a2.size ≤ 1048576 ∧ len3 ≤ 1048576 ∧ Short s3 len3) w) := by
  unfold maxLen at w0
  unfold maxLen at w2
  have hm3 : len3 ≤ 9223372036854775807 := by have := w3.lecap; have := w3.capmax; unfold maxLen at this; omega
  go_enter Try.func5, Try.ntmps5
  go_wp2
  all_goals try (go_ret; exact BoolIf.no)
  have hl3 : len3 ≤ 1048576 := by omega
  go_loop [13, 14] (fun n i => ∃ (k : Nat) (z : Int), k ≤ len3 ∧ i = .int .i64 k ∧ 0 ≤ z ∧ z ≤ 1048576 ∧ n = .int .i64 z ∧ Hid (Short s3 k)) (fun _ i => len3 - (intOf i).toNat)
  case atStart => exact ⟨0, _, Nat.zero_le _, rfl, by omega, by omega, rfl, Short.zero _⟩
  case round =>
    obtain ⟨k3, z3, hk3, rfl, hza3, hzb3, rfl, hsh3⟩ := hrel
    by_cases hlt3 : k3 < len3
    · obtain ⟨b, off, s, rfl, hblt, hs, hsz, hcell⟩ := w3.at_ hlt3
      have Hs := Lib.hid hs
      clear hs
      unfold maxLen at hsz
      go_wp2
      all_goals try (go_ret; exact BoolIf.no)
      all_goals exact ⟨⟨k3 + 1, _, by omega, by go_num, by omega, by omega, rfl, hsh3.out.step Hs.out (by omega)⟩, by simp [intOf]; omega⟩
    have hsh'3 : Short s3 len3 := by have h := hsh3.out; rw [show k3 = len3 by omega] at h; exact h
    go_wp2
    all_goals try (go_ret; exact BoolIf.no)
    all_goals (go_ret; refine BoolIf.yes ?_; (repeat' apply And.intro) <;> first | trivial | assumption | omega)
end Go.Proofs.Ytmmhdaepejdpmaa.fnCloneNodeBaseSpec
