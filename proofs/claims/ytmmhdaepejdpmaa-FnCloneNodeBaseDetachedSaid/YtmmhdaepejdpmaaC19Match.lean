/- identsMatch answers true of two slices that read as one list. -/
import Derived.Test.YtmmhdaepejdpmaaCommon
import Derived.Test.YtmmhdaepejdpmaaChecked
namespace Go.Proofs.Ytmmhdaepejdpmaa
open Go.ChangeShapes Go.WideShapes Go.ChangeAt Go.RowKit
set_option linter.unusedVariables false

set_option maxHeartbeats 400000 in
theorem identsMatch_yes (a0 a1 : Option Addr) (n c0 c1 : Nat) (ss : List ByteArray) (w : World) (w0 : IsStrs w a0 n c0 ss) (w1 : IsStrs w a1 n c1 ss) :
    Calls Try.prog 9 #[.slice a0 n c0, .slice a1 n c1] w (YesQuiet w) := by
  have hm0 : n ≤ 9223372036854775807 := by have := w0.lecap; have := w0.capmax; unfold maxLen at this; omega
  go_enter Try.func9, Try.ntmps9
  go_wp2
  go_loopw [5] (fun i wr => ∃ k m : Nat, k ≤ n ∧ i = .int .i64 k ∧ wr = w.drewN m) (fun i _ => n - (intOf i).toNat)
  case atStart => exact ⟨0, 0, Nat.zero_le _, rfl, rfl⟩
  case round =>
    obtain ⟨k, m, hk, rfl, rfl⟩ := hrel
    by_cases hlt : k < n
    · obtain ⟨b, off, s, rfl, hblt, hs, hsz, hcell⟩ := w0.at_ hlt
      obtain ⟨b1, off1, s1, rfl, hblt1, hs1, hsz1, hcell1⟩ := w1.at_ hlt
      obtain rfl : s = s1 := Option.some.inj (hs.symm.trans hs1)
      clear hs hs1 w0 w1
      have hlt' : (k : Int) < (n : Int) := by omega
      have hk0 : (0 : Int) ≤ (k : Int) := by omega
      go_wp2_with fail
      go_quiet (fail)
      go_wp2
      go_roundw
      case rel => exact ⟨k + 1, _, by omega, by go_num, rfl⟩
      case measure => simp [intOf]; omega
    · go_wp2
      go_ret
      exact ⟨rfl, m, rfl⟩
end Go.Proofs.Ytmmhdaepejdpmaa
