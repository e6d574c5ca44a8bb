/- AddIdentifiers: the set with the strings of the slice added in turn. -/
import Derived.Test.YtdhojpjimglijaaCSetAdd
import Derived.Test.YtdhojpjimglijaaApp
import Derived.Test.YtdhojpjimglijaaChecked
namespace Go.Proofs.Ytdhojpjimglijaa
open Go.ChangeShapes Go.WideShapes Go.ChangeAt Go.RowKit
set_option linter.unusedVariables false

set_option maxHeartbeats 400000 in
theorem addIds_any (b : Nat) (acc : List ByteArray) (a0 : Option Addr) (n c0 : Nat) (ss : List ByteArray) (w : World) (h : IsSet Try.prog 35 w b acc) (w0 : IsStrs w a0 n c0 ss) (hl : n ≤ 1048576) (hacc : acc.length ≤ 1048576) (hab : ∀ b' off, a0 = some ⟨b', off, none⟩ → b' ≠ b) :
    Calls Try.prog 18 #[.map (some b), .slice a0 n c0] w fun e w' => e = .returned (.tuple #[]) ∧ IsSet Try.prog 35 w' b (addAll acc ss) ∧ w.grownBy w' (some b) := by
  go_enter Try.func18, Try.ntmps18
  go_wp2
  go_loopw [8] (fun i wr => ∃ k : Nat, k ≤ n ∧ i = .int .i64 k ∧ IsSet Try.prog 35 wr b (addAll acc (ss.take k)) ∧ w.grownBy wr (some b)) (fun i _ => n - (intOf i).toNat)
  case atStart => exact ⟨0, Nat.zero_le _, rfl, h, World.grownBy.refl _ _⟩
  case round =>
    obtain ⟨k, hk, rfl, hS, hG⟩ := hrel
    by_cases hlt : k < n
    · have hst' := w0.grown hG (fun b' off e => by simp; exact hab b' off e)
      obtain ⟨b', off, s, rfl, hblt, hs, hsz, hcell⟩ := hst'.at_ hlt
      have Hstep := Lib.hid (addAll_take (acc := acc) hs)
      have hlen : (addAll acc (ss.take k)).length ≤ acc.length + k := by have := addAll_le (ss := ss.take k) (acc := acc); simp at this; omega
      clear hs hst' h
      go_wp2_with fail
      refine (add_any _ (addAll acc (ss.take k)) s _ hS hsz (by omega)).mono ?_
      rintro e w4 ⟨rfl, hS4, hg4⟩
      rw [← Hstep.out] at hS4
      have hG4 := hG.trans hg4
      clear hg4 hS hcell hG Hstep
      go_wp2
      exact ⟨⟨k + 1, by omega, by go_num, hS4, hG4⟩, by simp [intOf]; omega⟩
    · obtain rfl : k = n := by omega
      have hall : ss.take k = ss := List.take_of_length_le (by rw [w0.len]; exact Nat.le_refl _)
      rw [hall] at hS
      clear hall h
      go_wp2
      go_end0
      exact ⟨rfl, hS, hG⟩
end Go.Proofs.Ytdhojpjimglijaa
