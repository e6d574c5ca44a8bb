/- The walk of FnContainsAgreesWithOrderedSlice. -/
import Derived.Test.YtfefapadffmdlaaFnContainsAgreesWithOrderedSliceB
import Derived.Test.YtfefapadffmdlaaC73Copy
import Derived.Test.YtfefapadffmdlaaC73Bytes
import Derived.Test.YtfefapadffmdlaaC73Build
import Derived.Test.YtfefapadffmdlaaCSetContains
import Derived.Test.YtfefapadffmdlaaCSetOrdered
import Derived.Test.YtfefapadffmdlaaC73Find
namespace Go.Proofs.Ytfefapadffmdlaa.fnContainsAgreesWithOrderedSlice
open Go.ChangeShapes Go.WideShapes Go.ChangeAt Go.RowKit Go.Maps
set_option linter.unusedVariables false

set_option maxHeartbeats 1600000 in
theorem walk (a0 : Option Addr) (len0 cap0 : Nat) (s0 : List ByteArray) (a1 : ByteArray) (w : World) (w0 : IsStrs w a0 len0 cap0 s0) (w1 : a1.size ≤ maxLen) :
    Calls Try.prog 5 #[.slice a0 len0 cap0, .string a1] w fun e w' => e = .returned (.bool true) ∧ Below w.heap.size w w' := by
  go_enter Try.func5, Try.ntmps5
  go_wp2_with fail
  refine (bytes_any _ _ _ _ _ _ w0 w1).mono ?_
  rintro e w' ⟨r, rfl, hr, rfl⟩
  cases r
  · go_wp2_with fail
    go_ret
    exact ⟨rfl, Below.refl _ _⟩
  obtain ⟨hl, hsh, hq⟩ := hr rfl
  clear hr
  go_wp2_with fail
  all_goals try (go_ret; exact ⟨rfl, Below.refl _ _⟩)
  refine (sbytes_any _ _ _ _ _ w0 hsh).mono ?_
  rintro e w' ⟨n, rfl, hn0, hn1, rfl⟩
  go_wp2_with fail
  all_goals try (go_ret; exact ⟨rfl, Below.refl _ _⟩)
  refine (clone_any _ _ _ s0 _ w0 hl).mono ?_
  intro e w2 hcp
  obtain ⟨x, c, rfl, _, hb2, hst, _⟩ := hcp.u w0 hl
  clear hcp
  go_wp2_with fail
  refine (build_any _ _ _ s0 _ hst hl).mono ?_
  rintro e w3 ⟨rfl, hS, hB⟩
  have Hmem : Hid (∀ x, x ∈ addAll [] s0 ↔ x ∈ s0) := fun x => by rw [mem_addAll]; simp
  have hlenS : (addAll [] s0).length ≤ 1048576 := by have := addAll_le (ss := s0) (acc := []); have h2 := w0.len; simp at this; omega
  go_wp2_with fail
  refine (toOrdered_any _ _ _ hS hlenS).mono ?_
  rintro e w4 ⟨out, rfl, hp, hasc, hk, hS4, hb4, hz⟩
  have hB4 := below_trans hB hb4
  have hlo : out.length = (addAll [] s0).length := hp.length_eq
  have hos := strs_of_blk hk hlo (by unfold maxLen; omega) (fun k s hs => hz s (List.mem_of_getElem? hs))
  have Hasc := Lib.hid hasc
  have Hp : Hid (∀ x, x ∈ out ↔ x ∈ addAll [] s0) := fun x => hp.mem_iff
  clear hS hB hb4 hk hasc hp hz hlo
  go_wp2_with fail
  refine (contains_any _ _ a1 _ hS4 w1).mono ?_
  rintro e w5 ⟨he, hb5⟩
  have hdd : decide (a1 ∈ addAll [] s0) = decide (a1 ∈ out) := decide_eq_decide.2 (Hp.out a1).symm
  rw [hdd] at he
  subst he
  clear hdd
  have hS5 := hS4.below hb5
  have hos5 := hos.keep hb5
  have hB5 := below_trans hB4 hb5
  clear hS4 hos hB4 hb5
  go_wp2_with fail
  refine (find_any _ _ _ out _ _ hos5 hlenS Hasc).mono ?_
  rintro e w6 ⟨rfl, rfl⟩
  go_wp2
  go_loopw [7] (fun i wr => ∃ k : Nat, k ≤ (addAll [] s0).length ∧ i = .int .i64 k ∧ Below w6.heap.size w6 wr) (fun i _ => (addAll [] s0).length - (intOf i).toNat)
  case atStart => exact ⟨0, Nat.zero_le _, rfl, Below.refl _ _⟩
  case round =>
    obtain ⟨k, hk, rfl, hB7⟩ := hrel
    by_cases hlt : k < (addAll [] s0).length
    · have hst' := hos5.keep hB7
      obtain ⟨b, off, s, hbb, hblt, hs, hsz, hcell⟩ := hst'.at_ hlt
      injection hbb with hbb
      injection hbb with hb1 hb3
      subst hb1 hb3
      rw [Nat.zero_add] at hcell
      have hin : decide (s ∈ addAll [] s0) = true := by simp [(Hp.out s).1 (List.mem_of_getElem? hs)]
      clear hs hst'
      go_wp2_with fail
      refine (contains_any _ _ s _ (hS5.below hB7) hsz).mono ?_
      rintro e w8 ⟨he, hb8⟩
      rw [hin] at he
      subst he
      go_wp2
      exact ⟨⟨k + 1, by omega, by go_num, below_trans hB7 hb8⟩, by simp [intOf]; omega⟩
    · go_wp2
      go_ret
      exact ⟨rfl, below_trans (below_trans hb2 hB5) hB7⟩
end Go.Proofs.Ytfefapadffmdlaa.fnContainsAgreesWithOrderedSlice
