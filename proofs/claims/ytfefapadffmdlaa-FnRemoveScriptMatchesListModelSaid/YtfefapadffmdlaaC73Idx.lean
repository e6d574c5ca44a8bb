/- zzB8IndexOf: is x among the strings? -/
import Derived.Test.YtfefapadffmdlaaCommon
import Derived.Test.YtfefapadffmdlaaChecked
namespace Go.Proofs.Ytfefapadffmdlaa
open Go.ChangeShapes Go.WideShapes Go.ChangeAt Go.RowKit
set_option linter.unusedVariables false

def idx_any_post (x : ByteArray) (ss : List ByteArray) (w : World) (e : Ending) (w' : World) : Prop := e = .returned (.int .i64 (idxOf x ss)) ∧ w = w'
set_option maxHeartbeats 400000 in
theorem idx_any (x : ByteArray) (a0 : Option Addr) (n c0 : Nat) (ss : List ByteArray) (w : World) (w0 : IsStrs w a0 n c0 ss) :
    Calls Try.prog 15 #[.slice a0 n c0, .string x] w (idx_any_post x ss w) := by
  have hm0 : n ≤ 9223372036854775807 := by have := w0.lecap; have := w0.capmax; unfold maxLen at this; omega
  go_enter Try.func15, Try.ntmps15
  go_wp2
  go_loop [5] (fun i => ∃ k : Nat, k ≤ n ∧ i = .int .i64 k ∧ Hid (x ∉ ss.take k)) (fun i => n - (intOf i).toNat)
  case atStart => exact ⟨0, Nat.zero_le _, rfl, by simp [Hid]⟩
  case round =>
    obtain ⟨k, hk, rfl, hno⟩ := hrel
    by_cases hlt : k < n
    · obtain ⟨b, off, s, rfl, hblt, hs, hsz, hcell⟩ := w0.at_ hlt
      have hbe := bytes_eq_iff s x
      by_cases hsx : s = x
      · subst hsx
        have hq : (s.toList == s.toList) = true := by simp
        have hfin := Lib.hid (take_hit hs hno.out)
        clear hs hno hbe
        go_wp2
        go_ret
        exact ⟨by rw [hfin.out.2]; rfl, rfl⟩
      · have hq : (s.toList == x.toList) = false := by rw [hbe]; simp [hsx]
        have hnx := Lib.hid (take_miss hs hno.out hsx)
        clear hs hno hbe hsx
        go_wp2
        go_round
        case rel => exact ⟨k + 1, by omega, by go_num, hnx.out⟩
        case measure => simp [intOf]; omega
    · have hfin := Lib.hid (take_none (w0.len ▸ (by omega : n ≤ k)) hno.out)
      clear hno
      go_wp2
      go_ret
      exact ⟨by rw [hfin.out.2]; rfl, rfl⟩
end Go.Proofs.Ytfefapadffmdlaa
