/- The walk of FnIdentifierSetOrderFreeAndSaturated. -/
import Derived.Test.YtigeickdiagiaaaFnIdentifierSetOrderFreeAndSaturatedB
import Derived.Test.YtigeickdiagiaaaC4Bytes
import Derived.Test.YtigeickdiagiaaaC4Copy
import Derived.Test.YtigeickdiagiaaaC4In
import Derived.Test.YtigeickdiagiaaaCSetAdd
namespace Go.Proofs.Ytigeickdiagiaaa.fnIdentifierSetOrderFreeAndSaturated
open Go.ChangeShapes Go.WideShapes Go.ChangeAt Go.RowKit Go.Maps
set_option linter.unusedVariables false

/-- The list from behind: what has been added when the index stands at k - 1. -/
theorem addAll_drop {ss : List ByteArray} {k : Nat} {s : ByteArray} (h : ss[k]? = some s) : addAll [] (ss.drop k).reverse = addS (addAll [] (ss.drop (k + 1)).reverse) s := by
  have hk : k < ss.length := by
    rcases Nat.lt_or_ge k ss.length with h' | h'
    · exact h'
    · rw [List.getElem?_eq_none h'] at h; cases h
  have : ss.drop k = s :: ss.drop (k + 1) := by
    rw [List.drop_eq_getElem_cons hk]
    rw [List.getElem?_eq_getElem hk] at h
    rw [Option.some.inj h]
  rw [this, List.reverse_cons, addAll_snoc]
theorem same_len (ss : List ByteArray) : (addAll [] ss).length = (addAll [] ss.reverse).length :=
  (perm_of_mem (addAll_nodup List.nodup_nil) (addAll_nodup List.nodup_nil) fun x => by simp [mem_addAll]).length_eq

set_option maxHeartbeats 1600000 in
theorem walk (a0 : Option Addr) (len0 cap0 : Nat) (s0 : List ByteArray) (a1 : ByteArray) (w : World) (w0 : IsStrs w a0 len0 cap0 s0) (w1 : a1.size ≤ maxLen) :
    Calls Try.prog 3 #[.slice a0 len0 cap0, .string a1] w fun e w' => e = .returned (.bool true) ∧ Below w.heap.size w w' := by
  have hm1 := w1
  unfold maxLen at hm1
  go_enter Try.func3, Try.ntmps3
  go_wp2_with fail
  refine (bytes_any _ _ _ _ _ _ w0 w1).mono ?_
  rintro e w' ⟨r, rfl, hr, rfl⟩
  cases r
  · go_wp2_with fail
    go_ret
    exact ⟨rfl, Below.refl _ _⟩
  have hl : len0 ≤ 1048576 := by have := hr rfl; first | exact this | exact this.1
  clear hr
  go_wp2_with (go_at_call 6; refine (sbytes_any _ _ _ _ _ w0).mono ?_; rintro e w' ⟨n, rfl, hn0, hn1, rfl⟩)
  all_goals try (go_ret; exact ⟨rfl, Below.refl _ _⟩)
  refine (clone_any _ _ _ s0 _ w0 hl).mono ?_
  intro e w2 hcp
  obtain ⟨x, c, rfl, _, hb2, hst, _⟩ := hcp.u w0 hl
  clear hcp
  have hset := isSet_made Try.prog 29 w2
  have hbm := below_alloc (Below.refl w2.heap.size w2) (.map #[] 0)
  have hmm := fun W => run_makeMap_plain (P := Try.prog) (w := W) 27
  go_wp2
  go_loopw [6] (fun i wr => ∃ k : Nat, k ≤ len0 ∧ i = .int .i64 k ∧ IsSet Try.prog 29 wr w2.heap.size (addAll [] (s0.take k)) ∧ Below w2.heap.size w2 wr) (fun i _ => len0 - (intOf i).toNat)
  case atStart => exact ⟨0, Nat.zero_le _, rfl, hset, hbm⟩
  case round =>
    obtain ⟨k, hk, rfl, hS, hB⟩ := hrel
    clear hset hbm
    by_cases hlt : k < len0
    · have hst' := hst.keep hB
      obtain ⟨b, off, s, rfl, hblt, hs, hsz, hcell⟩ := hst'.at_ hlt
      have Hstep := Lib.hid (addAll_take (acc := []) hs)
      have hlen : (addAll [] (s0.take k)).length ≤ k := by have := addAll_le (ss := s0.take k) (acc := []); simp at this; omega
      clear hs hst'
      go_wp2_with fail
      refine (add_any _ (addAll [] (s0.take k)) s _ hS hsz (by omega)).mono ?_
      rintro e w4 ⟨rfl, hS4, hg4⟩
      rw [← Hstep.out] at hS4
      have hB4 : Below w2.heap.size w2 w4 := below_grown hB hg4 (Nat.le_refl _)
      clear hg4 hS hcell hB Hstep
      go_wp2
      exact ⟨⟨k + 1, by omega, by go_num, hS4, hB4⟩, by simp [intOf]; omega⟩
    · obtain ⟨w3, rfl⟩ : ∃ w3, w3 = wr := ⟨_, rfl⟩
      obtain rfl : k = len0 := by omega
      have hall : s0.take k = s0 := List.take_of_length_le (by rw [w0.len]; exact Nat.le_refl _)
      rw [hall] at hS
      clear hall
      have hset2 := isSet_made Try.prog 29 w3
      have hS' := hS.below (below_alloc (Below.refl w3.heap.size w3) (.map #[] 0))
      have hB' := below_alloc hB (.map #[] 0)
      have hst3 := hst.keep hB
      have hmz : w2.heap.size < w3.heap.size := hS.lt
      have hlenF : (addAll [] s0).length ≤ k := by have := addAll_le (ss := s0) (acc := []); rw [w0.len] at this; simpa using this
      have hbw : Below w.heap.size w w3 := below_trans hb2 hB
      have hdr : s0.drop k = [] := List.drop_of_length_le (by rw [w0.len]; exact Nat.le_refl _)
      go_wp2
      go_loopw [8] (fun i w5 => ∃ j : Nat, j ≤ k ∧ i = .int .i64 ((j : Int) - 1) ∧ IsSet Try.prog 29 w5 w2.heap.size (addAll [] s0) ∧ IsSet Try.prog 29 w5 w3.heap.size (addAll [] (s0.drop j).reverse) ∧ Below w3.heap.size w3 w5) (fun i _ => (intOf i + 1).toNat)
      case atStart => exact ⟨k, Nat.le_refl _, rfl, hS', by rw [hdr]; exact hset2, below_alloc (Below.refl _ _) _⟩
      case round =>
        obtain ⟨j, hj, rfl, hF, hR, hB5⟩ := hrel
        clear hset2 hS' hB' hS
        cases j with
        | succ j =>
          have hst' := hst3.keep hB5
          obtain ⟨b, off, s, rfl, hblt, hs, hsz, hcell⟩ := hst'.at_ (show j < k by omega)
          have Hstep := Lib.hid (addAll_drop hs)
          have hlen : (addAll [] (s0.drop (j + 1)).reverse).length ≤ k := by have := addAll_le (ss := (s0.drop (j + 1)).reverse) (acc := []); simp [w0.len] at this; omega
          have hje : ((j + 1 : Nat) : Int) - 1 = (j : Int) := by omega
          have hlt' : (j : Int) < (k : Int) := by omega
          have hlt : j < k := by omega
          have hk0 : (0 : Int) ≤ (j : Int) := by omega
          rw [hje]
          clear hs hst' hje
          go_wp2_with fail
          refine (add_any _ _ s _ hR hsz (by omega)).mono ?_
          rintro e w6 ⟨rfl, hS6, hg6⟩
          rw [← Hstep.out] at hS6
          have hB6 : Below w3.heap.size w3 w6 := below_grown hB5 hg6 (Nat.le_refl _)
          have hF6 := hF.kept hg6 (by simp; omega)
          clear hg6 hR hF hcell hB5 Hstep
          go_wp2
          exact ⟨⟨j, by omega, by go_num, hF6, hS6, hB6⟩, by simp [intOf]⟩
        | zero =>
          have hz : ((0 : Nat) : Int) - 1 = -1 := by omega
          rw [hz]
          rw [List.drop_zero] at hR
          clear hz hdr
          obtain ⟨w5, rfl⟩ : ∃ w5, w5 = wr := ⟨_, rfl⟩
          have hll := same_len s0
          have hlenR : (addAll [] s0.reverse).length ≤ k := by rw [← hll]; exact hlenF
          go_wp2_with (first | (at_len; refine wpList_len_set rfl _ 27 rfl 29 30 Try.underlying27 _ _ rfl hF ?_) | (at_len; refine wpList_len_set rfl _ 27 rfl 29 30 Try.underlying27 _ _ rfl hR ?_) | go_in)
          go_loopw [9] (fun i w6 => ∃ j : Nat, j ≤ k ∧ i = .int .i64 j ∧ Below w5.heap.size w5 w6) (fun i _ => k - (intOf i).toNat)
          case atStart => exact ⟨0, Nat.zero_le _, rfl, Below.refl _ _⟩
          case round =>
            obtain ⟨j, hj, rfl, hB6⟩ := hrel
            have hF6 := hF.below hB6
            by_cases hlt : j < k
            · have hR6 := hR.below hB6
              have hst' := (hst3.keep hB5).keep hB6
              obtain ⟨b, off, s, rfl, hblt, hs, hsz, hcell⟩ := hst'.at_ hlt
              have hin : decide (s ∈ addAll [] s0) = true := by simp [mem_addAll, List.mem_of_getElem? hs]
              have hin2 : decide (s ∈ addAll [] s0.reverse) = true := by simp [mem_addAll, List.mem_of_getElem? hs]
              have hF7 := hF6.below (below_alloc (Below.refl _ _) (.cells #[] 30))
              clear hs hst' hR hF
              go_wp2_with (first | (at_lookup; refine wpList_lookup_set rfl _ _ 27 rfl 29 30 lawK Try.underlying27 (zeroE _) _ _ rfl hR6 _ rfl (WideMaps.keyOf_string_mk Try.underlying29 hsz) ?_) | (at_lookup; refine wpList_lookup_set rfl _ _ 27 rfl 29 30 lawK Try.underlying27 (zeroE _) _ _ rfl hF7 _ rfl (WideMaps.keyOf_string_mk Try.underlying29 hsz) ?_) | go_in)
              exact ⟨⟨j + 1, by omega, by go_num, below_alloc (below_alloc hB6 _) _⟩, by simp [intOf]; omega⟩
            · clear hR hlenR hll hF
              obtain ⟨w7, rfl⟩ : ∃ w7, w7 = wr := ⟨_, rfl⟩
              have hBB : Below w2.heap.size w2 w7 := below_trans (below_trans hB hB5) hB6
              clear hst3 hB hB5 hB6 hbw
              go_wp2_with (at_len; refine wpList_len_set rfl _ 27 rfl 29 30 Try.underlying27 _ _ rfl (by assumption) ?_)
              go_loopw [15] (fun i w8 => ∃ j : Nat, j ≤ k ∧ i = .int .i64 j ∧ IsSet Try.prog 29 w8 w2.heap.size (addAll [] s0) ∧ Below w2.heap.size w2 w8) (fun i _ => k - (intOf i).toNat)
              case atStart => exact ⟨0, Nat.zero_le _, rfl, hF6, hBB⟩
              case round =>
                clear hF6 hBB
                obtain ⟨j, hj, rfl, hF, hB⟩ := hrel
                by_cases hlt : j < k
                · have hst' := hst.keep hB
                  obtain ⟨b, off, s, rfl, hblt, hs, hsz, hcell⟩ := hst'.at_ hlt
                  have hin : s ∈ addAll [] s0 := by simp [mem_addAll, List.mem_of_getElem? hs]
                  have hd1 : decide (s ∉ addAll [] s0) = false := by simp [hin]
                  have hadd : addS (addAll [] s0) s = addAll [] s0 := by rw [addS, if_pos hin]
                  clear hs hst' hin
                  go_wp2_with fail
                  refine (add_any _ _ s _ hF hsz (by omega)).mono ?_
                  rintro e w9 ⟨he, hF9, hg9⟩
                  rw [hd1] at he
                  subst he
                  rw [hadd] at hF9
                  have hB9 : Below w2.heap.size w2 w9 := below_grown hB hg9 (Nat.le_refl _)
                  clear hd1 hg9 hF hB hadd hcell
                  go_wp2_with (at_len; refine wpList_len_set rfl _ 27 rfl 29 30 Try.underlying27 _ _ rfl (by assumption) ?_)
                  exact ⟨⟨j + 1, by omega, by go_num, hF9, hB9⟩, by simp [intOf]; omega⟩
                have hmem : a1 ∈ addAll [] s0 ↔ a1 ∈ s0 := by rw [mem_addAll]; simp
                by_cases hin : a1 ∈ s0
                · have hd1 : decide (a1 ∉ addAll [] s0) = false := by simp [hmem, hin]
                  have hd2 : decide (a1 ∈ s0) = true := by simp [hin]
                  have hadd : (addS (addAll [] s0) a1).length = (addAll [] s0).length := by rw [addS, if_pos (hmem.2 hin)]
                  have hadd2 : decide (a1 ∉ addS (addAll [] s0) a1) = false := by simp [mem_addS]
                  have hadd3 : addS (addS (addAll [] s0) a1) a1 = addS (addAll [] s0) a1 := by rw [addS, if_pos (mem_addS.2 (Or.inr rfl))]
                  clear hin hmem
                  go_wp2_with (at_len; refine wpList_len_set rfl _ 27 rfl 29 30 Try.underlying27 _ _ rfl (by assumption) ?_)
                  refine (add_any _ _ a1 _ hF w1 (by omega)).mono ?_
                  rintro e w9 ⟨he, hF9, hg9⟩
                  rw [hd1] at he
                  subst he
                  have hB9 : Below w2.heap.size w2 w9 := below_grown hB hg9 (Nat.le_refl _)
                  have hlen9 : (addS (addAll [] s0) a1).length ≤ 1048577 := by rw [hadd]; omega
                  clear hd1 hg9 hF hB
                  go_wp2_with fail
                  refine (in_any _ _ _ _ s0 _ (hst.keep hB9)).mono ?_
                  rintro e w10 ⟨he, rfl⟩
                  rw [hd2] at he
                  subst he
                  clear hd2
                  have hlz : ((addS (addAll [] s0) a1).length : Int) = ((addAll [] s0).length : Int) := by rw [hadd]; try simp
                  have hlf := fun ty => hF9.len_ Try.underlying27 ty
                  rw [hlz] at hlf
                  go_wp2_with (at_len; refine wpList_len_set rfl _ 27 rfl 29 30 Try.underlying27 _ _ rfl (by assumption) ?_)
                  refine (add_any _ _ a1 _ hF9 w1 (by omega)).mono ?_
                  rintro e w11 ⟨he, hF11, hg11⟩
                  rw [hadd2] at he
                  subst he
                  rw [hadd3] at hF11
                  have hB11 : Below w2.heap.size w2 w11 := below_grown hB9 hg11 (Nat.le_refl _)
                  clear hg11 hF9 hB9 hadd2 hadd3
                  go_wp2_with (at_len; refine wpList_len_set rfl _ 27 rfl 29 30 Try.underlying27 _ _ rfl (by assumption) ?_)
                  go_ret
                  exact ⟨rfl, below_trans hb2 hB11⟩
                · have hd1 : decide (a1 ∉ addAll [] s0) = true := by simp [hmem, hin]
                  have hd2 : decide (a1 ∈ s0) = false := by simp [hin]
                  have hadd : (addS (addAll [] s0) a1).length = (addAll [] s0).length + 1 := by rw [addS, if_neg (fun h => hin (hmem.1 h))]; simp
                  have hadd2 : decide (a1 ∉ addS (addAll [] s0) a1) = false := by simp [mem_addS]
                  have hadd3 : addS (addS (addAll [] s0) a1) a1 = addS (addAll [] s0) a1 := by rw [addS, if_pos (mem_addS.2 (Or.inr rfl))]
                  clear hin hmem
                  go_wp2_with (at_len; refine wpList_len_set rfl _ 27 rfl 29 30 Try.underlying27 _ _ rfl (by assumption) ?_)
                  refine (add_any _ _ a1 _ hF w1 (by omega)).mono ?_
                  rintro e w9 ⟨he, hF9, hg9⟩
                  rw [hd1] at he
                  subst he
                  have hB9 : Below w2.heap.size w2 w9 := below_grown hB hg9 (Nat.le_refl _)
                  have hlen9 : (addS (addAll [] s0) a1).length ≤ 1048577 := by rw [hadd]; omega
                  clear hd1 hg9 hF hB
                  go_wp2_with fail
                  refine (in_any _ _ _ _ s0 _ (hst.keep hB9)).mono ?_
                  rintro e w10 ⟨he, rfl⟩
                  rw [hd2] at he
                  subst he
                  clear hd2
                  have hlz : ((addS (addAll [] s0) a1).length : Int) = ((addAll [] s0).length : Int) + 1 := by rw [hadd]; try simp
                  have hlf := fun ty => hF9.len_ Try.underlying27 ty
                  rw [hlz] at hlf
                  go_wp2_with (at_len; refine wpList_len_set rfl _ 27 rfl 29 30 Try.underlying27 _ _ rfl (by assumption) ?_)
                  refine (add_any _ _ a1 _ hF9 w1 (by omega)).mono ?_
                  rintro e w11 ⟨he, hF11, hg11⟩
                  rw [hadd2] at he
                  subst he
                  rw [hadd3] at hF11
                  have hB11 : Below w2.heap.size w2 w11 := below_grown hB9 hg11 (Nat.le_refl _)
                  clear hg11 hF9 hB9 hadd2 hadd3
                  go_wp2_with (at_len; refine wpList_len_set rfl _ 27 rfl 29 30 Try.underlying27 _ _ rfl (by assumption) ?_)
                  go_ret
                  exact ⟨rfl, below_trans hb2 hB11⟩
end Go.Proofs.Ytigeickdiagiaaa.fnIdentifierSetOrderFreeAndSaturated
