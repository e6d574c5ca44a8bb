/- locTooBig hands back some bool. -/
import Derived.Test.YtheamgcjnpljfaaCommon
import Derived.Test.YtheamgcjnpljfaaChecked
namespace Go.Proofs.Ytheamgcjnpljfaa
open Go.ChangeShapes Go.WideShapes Go.ChangeAt Go.RowKit
set_option linter.unusedVariables false

set_option maxHeartbeats 400000 in
theorem tooBig_any (a0 : Option Addr) (len0 cap0 : Nat) (s0 : List ByteArray) (a1 : ByteArray) (w : World) (w0 : IsStrs w a0 len0 cap0 s0) (w1 : a1.size ≤ maxLen) :
    Calls Try.prog 11 #[.slice a0 len0 cap0, .string a1] w (BoolIf True w) := by
  have hm0 : len0 ≤ 9223372036854775807 := by have := w0.lecap; have := w0.capmax; unfold maxLen at this; omega
  unfold maxLen at w1
  go_enter Try.func11, Try.ntmps11
  go_wp2
  all_goals try (go_ret; exact BoolIf.yes trivial)
  go_loop [5, 6] (fun n i => ∃ (k : Nat) (z : Int), k ≤ len0 ∧ i = .int .i64 k ∧ n = .int .i64 z) (fun _ i => len0 - (intOf i).toNat)
  case atStart => exact ⟨0, _, Nat.zero_le _, rfl, rfl⟩
  case round =>
    obtain ⟨k, z, hk, rfl, rfl⟩ := hrel
    by_cases hlt : k < len0
    · obtain ⟨b, off, s, rfl, hblt, hs, hsz, hcell⟩ := w0.at_ hlt
      have Hs := Lib.hid hs
      clear hs
      unfold maxLen at hsz
      go_wp2
      all_goals try (go_ret; exact BoolIf.yes trivial)
      all_goals exact ⟨⟨k + 1, _, by omega, by go_num, rfl⟩, by simp [intOf]; omega⟩
    · go_wp2
      go_ret
      exact BoolIf.no
end Go.Proofs.Ytheamgcjnpljfaa
