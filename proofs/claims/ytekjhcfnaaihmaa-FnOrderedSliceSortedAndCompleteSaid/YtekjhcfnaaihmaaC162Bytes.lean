/- zzBytes: some number from 0 on. -/
import Derived.Test.YtekjhcfnaaihmaaCommon
import Derived.Test.YtekjhcfnaaihmaaChecked
namespace Go.Proofs.Ytekjhcfnaaihmaa
open Go.ChangeShapes Go.WideShapes Go.ChangeAt Go.RowKit
set_option linter.unusedVariables false

set_option maxHeartbeats 400000 in
theorem sbytes_any (a0 : Option Addr) (len0 cap0 : Nat) (s0 : List ByteArray) (w : World) (w0 : IsStrs w a0 len0 cap0 s0) (hl : len0 ≤ 1048576) (hsh : Short s0 len0) :
    Calls Try.prog 5 #[.slice a0 len0 cap0] w (SomeInt 0 2199023255552 w) := by
  go_enter Try.func5, Try.ntmps5
  go_wp2
  go_loop [3, 4] (fun n i => ∃ (k : Nat) (z : Int), k ≤ len0 ∧ i = .int .i64 k ∧ 0 ≤ z ∧ z ≤ 8388608 + 1048576 * k ∧ n = .int .i64 z) (fun _ i => len0 - (intOf i).toNat)
  case atStart => exact ⟨0, _, Nat.zero_le _, rfl, by omega, by omega, rfl⟩
  case round =>
    obtain ⟨k, z, hk, rfl, hz0, hz1, rfl⟩ := hrel
    by_cases hlt : k < len0
    · obtain ⟨b, off, s, rfl, hblt, hs, _, hcell⟩ := w0.at_ hlt
      have hsz := hsh k s hlt hs
      have Hs := Lib.hid hs
      clear hs
      go_wp2
      all_goals exact ⟨⟨k + 1, _, by omega, by go_num, by omega, by omega, rfl⟩, by simp [intOf]; omega⟩
    · go_wp2
      go_ret
      exact SomeInt.mk (by omega) (by omega)
end Go.Proofs.Ytekjhcfnaaihmaa
