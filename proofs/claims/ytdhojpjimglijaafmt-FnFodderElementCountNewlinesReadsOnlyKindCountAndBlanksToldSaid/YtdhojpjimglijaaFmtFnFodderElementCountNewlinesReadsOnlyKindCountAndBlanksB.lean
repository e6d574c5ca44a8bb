/- The bound function of FnFodderElementCountNewlinesReadsOnlyKindCountAndBlanks: some bool; true tells that every list and string is short. (Written by wip/genb.py.) -/
import Derived.Test.YtdhojpjimglijaaFmtCommon
import Derived.Test.YtdhojpjimglijaaFmtChecked
namespace Go.Proofs.YtdhojpjimglijaaFmt.fnFodderElementCountNewlinesReadsOnlyKindCountAndBlanks
open Go.ChangeShapes Go.WideShapes Go.ChangeAt Go.RowKit
set_option linter.unusedVariables false

set_option maxHeartbeats 1600000 in
theorem bytes_any (a0 : Int) (a1 : Int) (a2 : Int) (a3 : Int) (a4 : Option Addr) (len4 cap4 : Nat) (s4 : List ByteArray) (w : World) (w4 : IsStrs w a4 len4 cap4 s4) :
    Calls Tryf.prog 4 #[.int .i64 a0, .int .i64 a1, .int .i64 a2, .int .i64 a3, .slice a4 len4 cap4] w (BoolIf (len4 ≤ 1048576 ∧ Short s4 len4) w) := by
  have hm4 : len4 ≤ 9223372036854775807 := by have := w4.lecap; have := w4.capmax; unfold maxLen at this; omega
  go_enter Tryf.func4, Tryf.ntmps4
  go_wp2
  all_goals try (go_ret; exact BoolIf.no)
  have hl4 : len4 ≤ 1048576 := by omega
  go_loop [11, 12] (fun n i => ∃ (k : Nat) (z : Int), k ≤ len4 ∧ i = .int .i64 k ∧ 0 ≤ z ∧ z ≤ 1048576 ∧ n = .int .i64 z ∧ Hid (Short s4 k)) (fun _ i => len4 - (intOf i).toNat)
  case atStart => exact ⟨0, _, Nat.zero_le _, rfl, by omega, by omega, rfl, Short.zero _⟩
  case round =>
    obtain ⟨k4, z4, hk4, rfl, hza4, hzb4, rfl, hsh4⟩ := hrel
    by_cases hlt4 : k4 < len4
    · obtain ⟨b, off, s, rfl, hblt, hs, hsz, hcell⟩ := w4.at_ hlt4
      have Hs := Lib.hid hs
      clear hs
      unfold maxLen at hsz
      go_wp2
      all_goals try (go_ret; exact BoolIf.no)
      all_goals exact ⟨⟨k4 + 1, _, by omega, by go_num, by omega, by omega, rfl, hsh4.out.step Hs.out (by omega)⟩, by simp [intOf]; omega⟩
    have hsh'4 : Short s4 len4 := by have h := hsh4.out; rw [show k4 = len4 by omega] at h; exact h
    go_wp2
    all_goals try (go_ret; exact BoolIf.no)
    all_goals (go_ret; refine BoolIf.yes ?_; (repeat' apply And.intro) <;> first | trivial | assumption | omega)
end Go.Proofs.YtdhojpjimglijaaFmt.fnFodderElementCountNewlinesReadsOnlyKindCountAndBlanks
