/- The bound function of FnCloneNodeBaseDetached: some bool; true tells that every list and string is short. (Written by wip/genb.py.) -/
import Derived.Test.YtmmhdaepejdpmaaCommon
import Derived.Test.YtmmhdaepejdpmaaChecked
namespace Go.Proofs.Ytmmhdaepejdpmaa.fnCloneNodeBaseDetached
open Go.ChangeShapes Go.WideShapes Go.ChangeAt Go.RowKit
set_option linter.unusedVariables false

set_option maxRecDepth 20000 in
set_option maxHeartbeats 1600000 in
theorem bytes_any (a0 : Bool) (a1 : ByteArray) (a2 : Option Addr) (len2 cap2 : Nat) (s2 : List ByteArray) (w : World) (w1 : a1.size ≤ maxLen) (w2 : IsStrs w a2 len2 cap2 s2) :
    Calls Try.prog 10 #[.bool a0, .string a1, .slice a2 len2 cap2] w (BoolIf (a1.size ≤ 1048576 ∧ len2 ≤ 1048576 ∧ Short s2 len2) w) := by
  unfold maxLen at w1
  have hm2 : len2 ≤ 9223372036854775807 := by have := w2.lecap; have := w2.capmax; unfold maxLen at this; omega
  go_enter Try.func10, Try.ntmps10
  go_wp2
  all_goals try (go_ret; exact BoolIf.no)
  have hl2 : len2 ≤ 1048576 := by omega
  go_loop [7, 8] (fun n i => ∃ (k : Nat) (z : Int), k ≤ len2 ∧ i = .int .i64 k ∧ 0 ≤ z ∧ z ≤ 1048576 ∧ n = .int .i64 z ∧ Hid (Short s2 k)) (fun _ i => len2 - (intOf i).toNat)
  case atStart => exact ⟨0, _, Nat.zero_le _, rfl, by omega, by omega, rfl, Short.zero _⟩
  case round =>
    obtain ⟨k2, z2, hk2, rfl, hza2, hzb2, rfl, hsh2⟩ := hrel
    by_cases hlt2 : k2 < len2
    · obtain ⟨b, off, s, rfl, hblt, hs, hsz, hcell⟩ := w2.at_ hlt2
      have Hs := Lib.hid hs
      clear hs
      unfold maxLen at hsz
      go_wp2
      all_goals try (go_ret; exact BoolIf.no)
      all_goals exact ⟨⟨k2 + 1, _, by omega, by go_num, by omega, by omega, rfl, hsh2.out.step Hs.out (by omega)⟩, by simp [intOf]; omega⟩
    have hsh'2 : Short s2 len2 := by have h := hsh2.out; rw [show k2 = len2 by omega] at h; exact h
    go_wp2
    all_goals try (go_ret; exact BoolIf.no)
    all_goals (go_ret; refine BoolIf.yes ?_; (repeat' apply And.intro) <;> first | trivial | assumption | omega)
end Go.Proofs.Ytmmhdaepejdpmaa.fnCloneNodeBaseDetached
