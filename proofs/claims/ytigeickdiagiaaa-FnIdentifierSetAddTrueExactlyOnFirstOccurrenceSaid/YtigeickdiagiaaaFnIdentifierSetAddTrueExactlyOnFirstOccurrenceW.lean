/- The walk of FnIdentifierSetAddTrueExactlyOnFirstOccurrence. -/
import Derived.Test.YtigeickdiagiaaaFnIdentifierSetAddTrueExactlyOnFirstOccurrenceB
import Derived.Test.YtigeickdiagiaaaC4Bytes
import Derived.Test.YtigeickdiagiaaaC4Copy
import Derived.Test.YtigeickdiagiaaaC4In
import Derived.Test.YtigeickdiagiaaaCSetAdd
namespace Go.Proofs.Ytigeickdiagiaaa.fnIdentifierSetAddTrueExactlyOnFirstOccurrence
open Go.ChangeShapes Go.WideShapes Go.ChangeAt Go.RowKit Go.Maps
set_option linter.unusedVariables false

set_option maxHeartbeats 800000 in
theorem walk (a0 : Option Addr) (len0 cap0 : Nat) (s0 : List ByteArray) (w : World) (w0 : IsStrs w a0 len0 cap0 s0) :
    Calls Try.prog 4 #[.slice a0 len0 cap0] w fun e w' => e = .returned (.bool true) ∧ Below w.heap.size w w' := by
  go_enter Try.func4, Try.ntmps4
  go_wp2_with fail
  refine (bytes_any _ _ _ _ _ w0).mono ?_
  rintro e w' ⟨r, rfl, hr, rfl⟩
  cases r
  · go_wp2_with fail
    go_ret
    exact ⟨rfl, Below.refl _ _⟩
  have hl : len0 ≤ 1048576 := hr rfl
  clear hr
  go_wp2_with fail
  refine (sbytes_any _ _ _ _ _ w0).mono ?_
  rintro e w' ⟨n, rfl, hn0, hn1, rfl⟩
  go_wp2_with fail
  all_goals try (go_ret; exact ⟨rfl, Below.refl _ _⟩)
  refine (clone_any _ _ _ s0 _ w0 hl).mono ?_
  intro e w2 hcp
  obtain ⟨x, c, rfl, _, hb2, hst, _⟩ := hcp.u w0 hl
  clear hcp
  have hset := isSet_made Try.prog 29 w2
  have hbm := below_alloc (Below.refl w2.heap.size w2) (.map #[] 0)
  have hmm := run_makeMap_plain (P := Try.prog) (w := w2) 27
  go_wp2
  go_loopw [4, 5] (fun d i wr => ∃ k : Nat, k ≤ len0 ∧ i = .int .i64 k ∧ d = .int .i64 ((addAll [] (s0.take k)).length : Int) ∧ IsSet Try.prog 29 wr w2.heap.size (addAll [] (s0.take k)) ∧ Below w2.heap.size w2 wr) (fun _ i _ => len0 - (intOf i).toNat)
  case atStart => exact ⟨0, Nat.zero_le _, rfl, rfl, hset, hbm⟩
  case round =>
    obtain ⟨k, hk, rfl, rfl, hS, hB⟩ := hrel
    clear hset hbm
    by_cases hlt : k < len0
    · have hst' := hst.keep hB
      obtain ⟨b, off, s, rfl, hblt, hs, hsz, hcell⟩ := hst'.at_ hlt
      have hlt' : (k : Int) < (len0 : Int) := by omega
      have hk0 : (0 : Int) ≤ (k : Int) := by omega
      have hkc : k ≤ c := by have := hst.lecap; omega
      have hmem : s ∈ addAll [] (s0.take k) ↔ s ∈ s0.take k := by rw [mem_addAll]; simp
      have hstep := addAll_take (acc := []) hs
      have hlen : (addAll [] (s0.take k)).length ≤ k := by have := addAll_le (ss := s0.take k) (acc := []); simp at this; omega
      by_cases hin : s ∈ s0.take k
      · have hd : decide (s ∈ s0.take k) = true := by simp [hin]
        have hd2 : decide (s ∉ addAll [] (s0.take k)) = false := by simp [hmem, hin]
        have hst2 : (addAll [] (s0.take (k + 1))).length = (addAll [] (s0.take k)).length := by rw [hstep, addS, if_pos (hmem.2 hin)]
        have Hstep := Lib.hid hstep
        clear hmem hstep hin hs
        go_wp2_with fail
        go_quiet ((go_at_call 9; exact Calls.quiet_of_same ((in_any _ _ _ _ (s0.take k) _ ((hst'.take hk).drewN _)).mono fun e w' ⟨he, hw⟩ => ⟨he, hw.symm⟩)))
        rw [hd]
        go_wp2_with fail
        refine (add_any _ (addAll [] (s0.take k)) s _ (hS.drewN _) hsz (by omega)).mono ?_
        rintro e w4 ⟨he, hS4, hg4⟩
        rw [hd2] at he
        subst he
        rw [← Hstep.out] at hS4
        have hB4 : Below w2.heap.size w2 w4 := below_grown (below_drewN hB _) hg4 (Nat.le_refl _)
        clear hd hd2 hg4 hS hst' hcell hB Hstep
        go_wp2_with (first | (at_len; refine wpList_len_set rfl _ 27 rfl 29 30 Try.underlying27 _ _ rfl (by assumption) ?_) | go_in)
        exact ⟨⟨k + 1, by omega, by go_num, by first | rw [hst2]; done | (rw [hst2]; simp), hS4, hB4⟩, by simp [intOf]; omega⟩
      · have hd : decide (s ∈ s0.take k) = false := by simp [hin]
        have hd2 : decide (s ∉ addAll [] (s0.take k)) = true := by simp [hmem, hin]
        have hst2 : (addAll [] (s0.take (k + 1))).length = (addAll [] (s0.take k)).length + 1 := by rw [hstep, addS, if_neg (fun h => hin (hmem.1 h))]; simp
        have Hstep := Lib.hid hstep
        clear hmem hstep hin hs
        go_wp2_with fail
        go_quiet ((go_at_call 9; exact Calls.quiet_of_same ((in_any _ _ _ _ (s0.take k) _ ((hst'.take hk).drewN _)).mono fun e w' ⟨he, hw⟩ => ⟨he, hw.symm⟩)))
        rw [hd]
        go_wp2_with fail
        refine (add_any _ (addAll [] (s0.take k)) s _ (hS.drewN _) hsz (by omega)).mono ?_
        rintro e w4 ⟨he, hS4, hg4⟩
        rw [hd2] at he
        subst he
        rw [← Hstep.out] at hS4
        have hB4 : Below w2.heap.size w2 w4 := below_grown (below_drewN hB _) hg4 (Nat.le_refl _)
        clear hd hd2 hg4 hS hst' hcell hB Hstep
        go_wp2_with (first | (at_len; refine wpList_len_set rfl _ 27 rfl 29 30 Try.underlying27 _ _ rfl (by assumption) ?_) | go_in)
        exact ⟨⟨k + 1, by omega, by go_num, by first | rw [hst2]; done | (rw [hst2]; simp), hS4, hB4⟩, by simp [intOf]; omega⟩
    · obtain rfl : k = len0 := by omega
      have hall : s0.take k = s0 := List.take_of_length_le (by rw [w0.len]; exact Nat.le_refl _)
      rw [hall] at hS ⊢
      clear hall
      go_wp2
      go_loopw [7] (fun i wr => ∃ j : Nat, j ≤ k ∧ i = .int .i64 j ∧ IsSet Try.prog 29 wr w2.heap.size (addAll [] s0) ∧ Below w2.heap.size w2 wr) (fun i _ => k - (intOf i).toNat)
      case atStart => exact ⟨0, Nat.zero_le _, rfl, hS, hB⟩
      case round =>
        clear hS hB
        obtain ⟨j, hj, rfl, hS, hB⟩ := hrel
        by_cases hlt : j < k
        · have hst' := hst.keep hB
          obtain ⟨b, off, s, rfl, hblt, hs, hsz, hcell⟩ := hst'.at_ hlt
          have hin : decide (s ∈ addAll [] s0) = true := by simp [mem_addAll, List.mem_of_getElem? hs]
          clear hs hst'
          go_wp2_with (first | (at_lookup; refine wpList_lookup_set rfl _ _ 27 rfl 29 30 lawK Try.underlying27 (zeroE _) _ _ rfl (by assumption) _ rfl (WideMaps.keyOf_string_mk Try.underlying29 hsz) ?_) | go_in)
          exact ⟨⟨j + 1, by omega, by go_num, hS.below (below_alloc (Below.refl _ _) _), below_alloc hB _⟩, by simp [intOf]; omega⟩
        · go_wp2
          go_ret
          exact ⟨rfl, below_trans hb2 hB⟩
end Go.Proofs.Ytigeickdiagiaaa.fnIdentifierSetAddTrueExactlyOnFirstOccurrence
