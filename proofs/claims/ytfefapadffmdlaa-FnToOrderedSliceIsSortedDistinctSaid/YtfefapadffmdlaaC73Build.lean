/- zzB8Build: the set of the members. -/
import Derived.Test.YtfefapadffmdlaaCSetAdd
import Derived.Test.YtfefapadffmdlaaCSetNew
import Derived.Test.YtfefapadffmdlaaChecked
namespace Go.Proofs.Ytfefapadffmdlaa
open Go.ChangeShapes Go.WideShapes Go.ChangeAt Go.RowKit Go.Maps
set_option linter.unusedVariables false

set_option maxHeartbeats 400000 in
theorem build_any (a0 : Option Addr) (n c0 : Nat) (ss : List ByteArray) (w : World) (w0 : IsStrs w a0 n c0 ss) (hl : n ≤ 1048576) :
    Calls Try.prog 20 #[.slice a0 n c0] w fun e w' => e = .returned (.map (some w.heap.size)) ∧ IsSet Try.prog 34 w' w.heap.size (addAll [] ss) ∧ Below w.heap.size w w' := by
  go_enter Try.func20, Try.ntmps20
  go_wp2_with fail
  refine (newSet_any _ _ _ _ _ (strs_nil _) (by decide)).mono ?_
  rintro e w2 ⟨rfl, hset, hbm⟩
  go_wp2
  go_loopw [4] (fun i wr => ∃ k : Nat, k ≤ n ∧ i = .int .i64 k ∧ IsSet Try.prog 34 wr w.heap.size (addAll [] (ss.take k)) ∧ Below w.heap.size w wr) (fun i _ => n - (intOf i).toNat)
  case atStart => exact ⟨0, Nat.zero_le _, rfl, hset, hbm⟩
  case round =>
    obtain ⟨k, hk, rfl, hS, hB⟩ := hrel
    clear hset hbm
    by_cases hlt : k < n
    · have hst' := w0.keep hB
      obtain ⟨b, off, s, rfl, hblt, hs, hsz, hcell⟩ := hst'.at_ hlt
      have Hstep := Lib.hid (addAll_take (acc := []) hs)
      have hlen : (addAll [] (ss.take k)).length ≤ k := by have := addAll_le (ss := ss.take k) (acc := []); simp at this; omega
      clear hs hst'
      go_wp2_with fail
      refine (add_any _ (addAll [] (ss.take k)) s _ hS hsz (by omega)).mono ?_
      rintro e w4 ⟨rfl, hS4, hg4⟩
      rw [← Hstep.out] at hS4
      have hB4 : Below w.heap.size w w4 := below_grown hB hg4 (Nat.le_refl _)
      clear hg4 hS hcell hB Hstep
      go_wp2
      exact ⟨⟨k + 1, by omega, by go_num, hS4, hB4⟩, by simp [intOf]; omega⟩
    · obtain rfl : k = n := by omega
      have hall : ss.take k = ss := List.take_of_length_le (by rw [w0.len]; exact Nat.le_refl _)
      rw [hall] at hS
      clear hall
      go_wp2
      go_ret
      exact ⟨rfl, hS, hB⟩
end Go.Proofs.Ytfefapadffmdlaa
