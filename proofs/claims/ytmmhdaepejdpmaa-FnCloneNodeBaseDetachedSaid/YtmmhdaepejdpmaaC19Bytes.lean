/- strBytes: some number from 0 on. -/
import Derived.Test.YtmmhdaepejdpmaaCommon
import Derived.Test.YtmmhdaepejdpmaaChecked
namespace Go.Proofs.Ytmmhdaepejdpmaa
open Go.ChangeShapes Go.WideShapes Go.ChangeAt Go.RowKit
set_option linter.unusedVariables false

set_option maxHeartbeats 400000 in
theorem strBytes_any (a0 : Option Addr) (len0 cap0 : Nat) (s0 : List ByteArray) (w : World) (w0 : IsStrs w a0 len0 cap0 s0) :
    Calls Try.prog 6 #[.slice a0 len0 cap0] w (SomeInt 0 4194304 w) := by
  have hm0 : len0 ≤ 9223372036854775807 := by have := w0.lecap; have := w0.capmax; unfold maxLen at this; omega
  go_enter Try.func6, Try.ntmps6
  go_wp2
  all_goals try (go_ret; exact SomeInt.mk (by decide) (by decide))
  go_loop [3, 4] (fun n i => ∃ (k : Nat) (z : Int), k ≤ len0 ∧ i = .int .i64 k ∧ 0 ≤ z ∧ z ≤ 1048576 ∧ n = .int .i64 z) (fun _ i => len0 - (intOf i).toNat)
  case atStart => exact ⟨0, _, Nat.zero_le _, rfl, by omega, by omega, rfl⟩
  case round =>
    obtain ⟨k, z, hk, rfl, hz0, hz1, rfl⟩ := hrel
    by_cases hlt : k < len0
    · obtain ⟨b, off, s, rfl, hblt, hs, hsz, hcell⟩ := w0.at_ hlt
      have Hs := Lib.hid hs
      clear hs
      unfold maxLen at hsz
      go_wp2
      all_goals try (go_ret; exact SomeInt.mk (by decide) (by decide))
      all_goals exact ⟨⟨k + 1, _, by omega, by go_num, by omega, by omega, rfl⟩, by simp [intOf]; omega⟩
    · go_wp2
      go_ret
      exact SomeInt.mk (by omega) (by omega)
end Go.Proofs.Ytmmhdaepejdpmaa
