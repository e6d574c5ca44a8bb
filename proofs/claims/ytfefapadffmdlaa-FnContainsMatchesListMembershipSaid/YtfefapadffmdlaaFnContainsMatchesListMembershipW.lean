/- The walk of FnContainsMatchesListMembership. -/
import Derived.Test.YtfefapadffmdlaaFnContainsMatchesListMembershipB
import Derived.Test.YtfefapadffmdlaaC73Copy
import Derived.Test.YtfefapadffmdlaaC73Bytes
import Derived.Test.YtfefapadffmdlaaC73Build
import Derived.Test.YtfefapadffmdlaaCSetContains
import Derived.Test.YtfefapadffmdlaaC73Idx
namespace Go.Proofs.Ytfefapadffmdlaa.fnContainsMatchesListMembership
open Go.ChangeShapes Go.WideShapes Go.ChangeAt Go.RowKit Go.Maps
set_option linter.unusedVariables false

set_option maxHeartbeats 1600000 in
theorem walk (a0 : Option Addr) (len0 cap0 : Nat) (s0 : List ByteArray) (a1 : ByteArray) (w : World) (w0 : IsStrs w a0 len0 cap0 s0) (w1 : a1.size ≤ maxLen) :
    Calls Try.prog 4 #[.slice a0 len0 cap0, .string a1] w fun e w' => e = .returned (.bool true) ∧ Below w.heap.size w w' := by
  go_enter Try.func4, Try.ntmps4
  go_wp2_with fail
  refine (bytes_any _ _ _ _ _ _ w0 w1).mono ?_
  rintro e w' ⟨r, rfl, hr, rfl⟩
  cases r
  · go_wp2_with fail
    go_ret
    exact ⟨rfl, Below.refl _ _⟩
  obtain ⟨hl, hsh, hq⟩ := hr rfl
  clear hr
  go_wp2_with fail
  all_goals try (go_ret; exact ⟨rfl, Below.refl _ _⟩)
  refine (sbytes_any _ _ _ _ _ w0 hsh).mono ?_
  rintro e w' ⟨n, rfl, hn0, hn1, rfl⟩
  go_wp2_with fail
  all_goals try (go_ret; exact ⟨rfl, Below.refl _ _⟩)
  refine (clone_any _ _ _ s0 _ w0 hl).mono ?_
  intro e w2 hcp
  obtain ⟨x, c, rfl, _, hb2, hst, _⟩ := hcp.u w0 hl
  clear hcp
  go_wp2_with fail
  refine (build_any _ _ _ s0 _ hst hl).mono ?_
  rintro e w3 ⟨rfl, hS, hB⟩
  have Hmem : Hid (∀ x, x ∈ addAll [] s0 ↔ x ∈ s0) := fun x => by rw [mem_addAll]; simp
  have hlenS : (addAll [] s0).length ≤ 1048576 := by have := addAll_le (ss := s0) (acc := []); have h2 := w0.len; simp at this; omega
  go_wp2_with fail
  refine (contains_any _ _ a1 _ hS w1).mono ?_
  rintro e w4 ⟨he, hb4⟩
  have hq : decide (a1 ∈ addAll [] s0) = decide (0 ≤ idxOf a1 s0) := by
    have h1 := idxOf_neg a1 s0
    by_cases h : a1 ∈ s0
    · have : ¬ idxOf a1 s0 < 0 := fun h2 => h1.1 h2 h
      simp [Hmem.out, h]; omega
    · have := h1.2 h
      simp [Hmem.out, h]; omega
  rw [hq] at he
  subst he
  have hS4 := hS.below hb4
  have hB4 := below_trans hB hb4
  clear hq hS hB hb4
  go_wp2_with fail
  refine (idx_any _ _ _ _ s0 _ (hst.keep hB4)).mono ?_
  rintro e w5 ⟨rfl, rfl⟩
  go_wp2
  go_loopw [6] (fun i wr => ∃ k : Nat, k ≤ len0 ∧ i = .int .i64 k ∧ Below w4.heap.size w4 wr) (fun i _ => len0 - (intOf i).toNat)
  case atStart => exact ⟨0, Nat.zero_le _, rfl, Below.refl _ _⟩
  case round =>
    obtain ⟨k, hk, rfl, hB5⟩ := hrel
    by_cases hlt : k < len0
    · have hst' := (hst.keep hB4).keep hB5
      obtain ⟨b, off, s, rfl, hblt, hs, hsz, hcell⟩ := hst'.at_ hlt
      have hin : decide (s ∈ addAll [] s0) = true := by simp [Hmem.out, List.mem_of_getElem? hs]
      clear hs hst'
      go_wp2_with fail
      refine (contains_any _ _ s _ (hS4.below hB5) hsz).mono ?_
      rintro e w6 ⟨he, hb6⟩
      rw [hin] at he
      subst he
      go_wp2
      exact ⟨⟨k + 1, by omega, by go_num, below_trans hB5 hb6⟩, by simp [intOf]; omega⟩
    · go_wp2
      go_ret
      exact ⟨rfl, below_trans (below_trans hb2 hB4) hB5⟩
end Go.Proofs.Ytfefapadffmdlaa.fnContainsMatchesListMembership
