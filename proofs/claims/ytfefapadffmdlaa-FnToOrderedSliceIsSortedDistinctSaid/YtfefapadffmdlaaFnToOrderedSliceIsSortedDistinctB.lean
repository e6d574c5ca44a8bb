/- The bound function of FnToOrderedSliceIsSortedDistinct: some bool; true tells that every list and string is short. (Written by wip/genb.py.) -/
import Derived.Test.YtfefapadffmdlaaCommon
import Derived.Test.YtfefapadffmdlaaChecked
namespace Go.Proofs.Ytfefapadffmdlaa.fnToOrderedSliceIsSortedDistinct
open Go.ChangeShapes Go.WideShapes Go.ChangeAt Go.RowKit
set_option linter.unusedVariables false

set_option maxHeartbeats 1600000 in
theorem bytes_any (a0 : Option Addr) (len0 cap0 : Nat) (s0 : List ByteArray) (w : World) (w0 : IsStrs w a0 len0 cap0 s0) :
    Calls Try.prog 24 #[.slice a0 len0 cap0] w (BoolIf (len0 ≤ 1048576 ∧ Short s0 len0) w) := by
  have hm0 : len0 ≤ 9223372036854775807 := by have := w0.lecap; have := w0.capmax; unfold maxLen at this; omega
  go_enter Try.func24, Try.ntmps24
  go_wp2
  all_goals try (go_ret; exact BoolIf.no)
  have hl0 : len0 ≤ 1048576 := by omega
  go_loop [3, 4] (fun n i => ∃ (k : Nat) (z : Int), k ≤ len0 ∧ i = .int .i64 k ∧ 0 ≤ z ∧ z ≤ 1048576 ∧ n = .int .i64 z ∧ Hid (Short s0 k)) (fun _ i => len0 - (intOf i).toNat)
  case atStart => exact ⟨0, _, Nat.zero_le _, rfl, by omega, by omega, rfl, Short.zero _⟩
  case round =>
    obtain ⟨k0, z0, hk0, rfl, hza0, hzb0, rfl, hsh0⟩ := hrel
    by_cases hlt0 : k0 < len0
    · obtain ⟨b, off, s, rfl, hblt, hs, hsz, hcell⟩ := w0.at_ hlt0
      have Hs := Lib.hid hs
      clear hs
      unfold maxLen at hsz
      go_wp2
      all_goals try (go_ret; exact BoolIf.no)
      all_goals exact ⟨⟨k0 + 1, _, by omega, by go_num, by omega, by omega, rfl, hsh0.out.step Hs.out (by omega)⟩, by simp [intOf]; omega⟩
    have hsh'0 : Short s0 len0 := by have h := hsh0.out; rw [show k0 = len0 by omega] at h; exact h
    go_wp2
    all_goals try (go_ret; exact BoolIf.no)
    all_goals (go_ret; refine BoolIf.yes ?_; (repeat' apply And.intro) <;> first | trivial | assumption | omega)
end Go.Proofs.Ytfefapadffmdlaa.fnToOrderedSliceIsSortedDistinct
