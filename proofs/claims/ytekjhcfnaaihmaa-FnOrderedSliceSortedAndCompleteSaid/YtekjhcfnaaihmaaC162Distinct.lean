/- zzDistinct: how many different strings. -/
import Derived.Test.YtekjhcfnaaihmaaSetLib
import Derived.Test.YtekjhcfnaaihmaaC162In
import Derived.Test.YtekjhcfnaaihmaaChecked
namespace Go.Proofs.Ytekjhcfnaaihmaa
open Go.ChangeShapes Go.WideShapes Go.ChangeAt Go.RowKit
set_option linter.unusedVariables false

theorem drewN_twice (w : World) (m n : Nat) : (w.drewN m).drewN n = w.drewN (m + n) := by simp [World.drewN, Nat.add_assoc]

set_option maxHeartbeats 400000 in
theorem distinct_any (a0 : Option Addr) (n c0 : Nat) (ss : List ByteArray) (w : World) (w0 : IsStrs w a0 n c0 ss) (hl : n ≤ 1048576) :
    Calls Try.prog 9 #[.slice a0 n c0] w fun e w' => e = .returned (.int .i64 ((addAll [] ss).length : Int)) ∧ ∃ m, w' = w.drewN m := by
  go_enter Try.func9, Try.ntmps9
  go_wp2
  go_loopw [3, 4] (fun d i wr => ∃ k m : Nat, k ≤ n ∧ i = .int .i64 k ∧ d = .int .i64 ((addAll [] (ss.take k)).length : Int) ∧ wr = w.drewN m) (fun _ i _ => n - (intOf i).toNat)
  case atStart => exact ⟨0, 0, Nat.zero_le _, rfl, rfl, rfl⟩
  case round =>
    obtain ⟨k, m, hk, rfl, rfl, hwr⟩ := hrel
    have wr0 : IsStrs wr a0 n c0 ss := by rw [hwr]; exact w0.drewN m
    have Hwr := Lib.hid hwr
    clear hwr
    by_cases hlt : k < n
    · obtain ⟨b, off, s, rfl, hblt, hs, hsz, hcell⟩ := wr0.at_ hlt
      have hlt' : (k : Int) < (n : Int) := by omega
      have hk0 : (0 : Int) ≤ (k : Int) := by omega
      have hkc : k ≤ c0 := by have := w0.lecap; omega
      have hmem : s ∈ addAll [] (ss.take k) ↔ s ∈ ss.take k := by rw [mem_addAll]; simp
      have hstep := addAll_take (acc := []) hs
      have hlen : (addAll [] (ss.take k)).length ≤ k := by have := addAll_le (ss := ss.take k) (acc := []); simp at this; omega
      by_cases hin : s ∈ ss.take k
      · have hd : decide (s ∈ ss.take k) = true := by simp [hin]
        have hst2 : (addAll [] (ss.take (k + 1))).length = (addAll [] (ss.take k)).length := by rw [hstep, addS, if_pos (hmem.2 hin)]
        clear hmem hstep hin hs
        go_wp2_with fail
        go_quiet ((go_at_call 11; exact Calls.quiet_of_same ((in_any _ _ _ _ (ss.take k) _ ((wr0.take hk).drewN _)).mono fun e w' ⟨he, hw⟩ => ⟨he, hw.symm⟩)))
        rw [hd]
        go_wp2
        exact ⟨⟨k + 1, _, by omega, by go_num, by rw [hst2], by rw [Hwr.out]; exact drewN_twice _ _ _⟩, by simp [intOf]; omega⟩
      · have hd : decide (s ∈ ss.take k) = false := by simp [hin]
        have hst2 : (addAll [] (ss.take (k + 1))).length = (addAll [] (ss.take k)).length + 1 := by rw [hstep, addS, if_neg (fun h => hin (hmem.1 h))]; simp
        clear hmem hstep hin hs
        go_wp2_with fail
        go_quiet ((go_at_call 11; exact Calls.quiet_of_same ((in_any _ _ _ _ (ss.take k) _ ((wr0.take hk).drewN _)).mono fun e w' ⟨he, hw⟩ => ⟨he, hw.symm⟩)))
        rw [hd]
        go_wp2
        exact ⟨⟨k + 1, _, by omega, by go_num, by rw [hst2]; simp, by rw [Hwr.out]; exact drewN_twice _ _ _⟩, by simp [intOf]; omega⟩
    · obtain rfl : k = n := by omega
      have hall : ss.take k = ss := List.take_of_length_le (by rw [w0.len]; exact Nat.le_refl _)
      rw [hall]
      go_wp2
      go_ret
      exact ⟨rfl, m, Hwr.out⟩
end Go.Proofs.Ytekjhcfnaaihmaa
