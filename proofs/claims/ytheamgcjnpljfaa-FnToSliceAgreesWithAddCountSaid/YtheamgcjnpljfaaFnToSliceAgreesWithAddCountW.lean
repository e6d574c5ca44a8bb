/- The walk of FnToSliceAgreesWithAddCount. -/
import Derived.Test.YtheamgcjnpljfaaFnToSliceAgreesWithAddCountB
import Derived.Test.YtheamgcjnpljfaaC6Copy
import Derived.Test.YtheamgcjnpljfaaC6IdsBig
import Derived.Test.YtheamgcjnpljfaaCSetAdd
import Derived.Test.YtheamgcjnpljfaaCSetToSlice
import Derived.Test.YtheamgcjnpljfaaCSetToSliceNil
namespace Go.Proofs.Ytheamgcjnpljfaa.fnToSliceAgreesWithAddCount
open Go.ChangeShapes Go.WideShapes Go.ChangeAt Go.RowKit Go.Maps
set_option linter.unusedVariables false

set_option maxHeartbeats 1600000 in
theorem walk (a0 : Option Addr) (len0 cap0 : Nat) (s0 : List ByteArray) (w : World) (w0 : IsStrs w a0 len0 cap0 s0) :
    Calls Try.prog 9 #[.slice a0 len0 cap0] w fun e w' => e = .returned (.bool true) ∧ Below w.heap.size w w' := by
  go_enter Try.func9, Try.ntmps9
  go_wp2_with fail
  refine (bytes_any _ _ _ _ _ w0).mono ?_
  rintro e w' ⟨r, rfl, hr, rfl⟩
  cases r
  · go_wp2_with fail
    go_ret
    exact ⟨rfl, Below.refl _ _⟩
  obtain ⟨hl, hsh⟩ := hr rfl
  clear hr
  go_wp2_with fail
  all_goals try (go_ret; exact ⟨rfl, Below.refl _ _⟩)
  refine (idsBig_any _ _ _ _ _ w0 hsh).mono ?_
  rintro e w' ⟨r, rfl, _, rfl⟩
  cases r
  rotate_left
  · go_wp2_with fail
    go_ret
    exact ⟨rfl, Below.refl _ _⟩
  go_wp2_with fail
  refine (clone_any _ _ _ s0 _ w0 hl).mono ?_
  intro e w2 hcp
  obtain ⟨x, c, rfl, _, hb2, hst, _⟩ := hcp.u w0 hl
  clear hcp
  have hset := isSet_made Try.prog 42 w2
  have hbm := below_alloc (Below.refl w2.heap.size w2) (.map #[] 0)
  have hmm := run_makeMap_plain (P := Try.prog) (w := w2) 40
  go_wp2
  go_loopw [4, 5] (fun d i wr => ∃ k : Nat, k ≤ len0 ∧ i = .int .i64 k ∧ d = .int .i64 ((addAll [] (s0.take k)).length : Int) ∧ IsSet Try.prog 42 wr w2.heap.size (addAll [] (s0.take k)) ∧ Below w2.heap.size w2 wr) (fun _ i _ => len0 - (intOf i).toNat)
  case atStart => exact ⟨0, Nat.zero_le _, rfl, rfl, hset, hbm⟩
  case round =>
    obtain ⟨k, hk, rfl, rfl, hS, hB⟩ := hrel
    clear hset hbm
    have hlen : (addAll [] (s0.take k)).length ≤ k := by have := addAll_le (ss := s0.take k) (acc := []); simp at this; omega
    by_cases hlt : k < len0
    · have hst' := hst.keep hB
      obtain ⟨b, off, s, rfl, hblt, hs, hsz, hcell⟩ := hst'.at_ hlt
      have hstep := addAll_take (acc := []) hs
      have Hstep := Lib.hid hstep
      by_cases hin : s ∈ addAll [] (s0.take k)
      · have hd2 : decide (s ∉ addAll [] (s0.take k)) = false := by simp [hin]
        have hst2 : (addAll [] (s0.take (k + 1))).length = (addAll [] (s0.take k)).length := by rw [hstep, addS, if_pos hin]
        clear hstep hin hs
        go_wp2_with fail
        refine (add_any _ (addAll [] (s0.take k)) s _ hS hsz (by omega)).mono ?_
        rintro e w4 ⟨he, hS4, hg4⟩
        rw [hd2] at he
        subst he
        rw [← Hstep.out] at hS4
        have hB4 : Below w2.heap.size w2 w4 := below_grown hB hg4 (Nat.le_refl _)
        clear hd2 hg4 hS hst' hcell hB Hstep
        go_wp2
        exact ⟨⟨k + 1, by omega, by go_num, by rw [hst2], hS4, hB4⟩, by simp [intOf]; omega⟩
      · have hd2 : decide (s ∉ addAll [] (s0.take k)) = true := by simp [hin]
        have hst2 : (addAll [] (s0.take (k + 1))).length = (addAll [] (s0.take k)).length + 1 := by rw [hstep, addS, if_neg hin]; simp
        clear hstep hin hs
        go_wp2_with fail
        refine (add_any _ (addAll [] (s0.take k)) s _ hS hsz (by omega)).mono ?_
        rintro e w4 ⟨he, hS4, hg4⟩
        rw [hd2] at he
        subst he
        rw [← Hstep.out] at hS4
        have hB4 : Below w2.heap.size w2 w4 := below_grown hB hg4 (Nat.le_refl _)
        clear hd2 hg4 hS hst' hcell hB Hstep
        go_wp2
        exact ⟨⟨k + 1, by omega, by go_num, by rw [hst2]; simp, hS4, hB4⟩, by simp [intOf]; omega⟩
    · obtain ⟨w3, rfl⟩ : ∃ w3, w3 = wr := ⟨_, rfl⟩
      obtain rfl : k = len0 := by omega
      have hall : s0.take k = s0 := List.take_of_length_le (by rw [w0.len]; exact Nat.le_refl _)
      rw [hall] at hS hlen ⊢
      clear hall
      have hmz : w2.heap.size < w3.heap.size := hS.lt
      go_wp2_with fail
      refine (toSlice_any _ _ _ hS (by omega)).mono ?_
      rintro e w4 ⟨out, rfl, hp, hk4, hS4, hb4, hoz⟩
      have hB4 := below_trans hB hb4
      have hz4 := hk4.lt
      have hlo : out.length = (addAll [] s0).length := hp.length_eq
      have hos : IsStrs w4 (some ⟨w3.heap.size, 0, none⟩) (addAll [] s0).length (addAll [] s0).length out := strs_of_blk hk4 hlo (by unfold maxLen; omega) (fun k s hs => hoz s (List.mem_of_getElem? hs))
      have hlf := fun ty => hS4.len_ Try.underlying40 ty
      clear hS hB hk4 hb4
      go_wp2
      clear hlf
      go_loopw [7] (fun i w5 => ∃ j : Nat, j ≤ (addAll [] s0).length ∧ i = .int .i64 j ∧ Below w4.heap.size w4 w5) (fun i _ => (addAll [] s0).length - (intOf i).toNat)
      case atStart => exact ⟨0, Nat.zero_le _, rfl, Below.refl _ _⟩
      case round =>
        obtain ⟨j, hj, rfl, hB5⟩ := hrel
        by_cases hlj : j < (addAll [] s0).length
        · have hos' := hos.keep hB5
          obtain ⟨b, off, s, hbb, hblt, hs, hsz, hcell⟩ := hos'.at_ hlj
          injection hbb with hbb
          injection hbb with hb1 hb3
          subst hb1 hb3
          rw [Nat.zero_add] at hcell
          have hin : decide (s ∈ addAll [] s0) = true := by simp [hp.mem_iff.1 (List.mem_of_getElem? hs)]
          have hS5 := hS4.below hB5
          clear hs hos'
          go_wp2_with (at_lookup; refine wpList_lookup_set rfl _ _ 40 rfl 42 47 lawK Try.underlying40 (zeroE _) _ _ rfl (by assumption) _ rfl (keyK hsz) ?_)
          exact ⟨⟨j + 1, by omega, by go_num, below_alloc hB5 _⟩, by simp [intOf]; omega⟩
        · obtain ⟨w5, rfl⟩ : ∃ w5, w5 = wr := ⟨_, rfl⟩
          have hS5 := hS4.below hB5
          have hB5' := below_trans hB4 hB5
          clear hS4 hB4 hB5 hos hoz hp hlo hz4
          go_wp2
          go_loopw [10] (fun i w8 => ∃ j : Nat, j ≤ k ∧ i = .int .i64 j ∧ IsSet Try.prog 42 w8 w2.heap.size (addAll [] s0) ∧ Below w2.heap.size w2 w8) (fun i _ => k - (intOf i).toNat)
          case atStart => exact ⟨0, Nat.zero_le _, rfl, hS5, hB5'⟩
          case round =>
            clear hS5 hB5'
            obtain ⟨j, hj, rfl, hF, hB⟩ := hrel
            by_cases hlt : j < k
            · have hst' := hst.keep hB
              obtain ⟨b, off, s, rfl, hblt, hs, hsz, hcell⟩ := hst'.at_ hlt
              have hin : s ∈ addAll [] s0 := by simp [mem_addAll, List.mem_of_getElem? hs]
              have hd1 : decide (s ∉ addAll [] s0) = false := by simp [hin]
              have hadd : addS (addAll [] s0) s = addAll [] s0 := by rw [addS, if_pos hin]
              clear hs hst' hin
              go_wp2_with fail
              refine (add_any _ _ s _ hF hsz (by omega)).mono ?_
              rintro e w9 ⟨he, hF9, hg9⟩
              rw [hd1] at he
              subst he
              rw [hadd] at hF9
              have hB9 : Below w2.heap.size w2 w9 := below_grown hB hg9 (Nat.le_refl _)
              clear hd1 hg9 hF hB hadd hcell
              go_wp2
              exact ⟨⟨j + 1, by omega, by go_num, hF9, hB9⟩, by simp [intOf]; omega⟩
            · go_wp2_with fail
              refine (toSlice_any _ _ _ hF (by omega)).mono ?_
              rintro e w10 ⟨out2, rfl, hp2, hk10, hS10, hb10, hoz2⟩
              have hB10 := below_trans hB hb10
              clear hF hB hb10 hk10 hoz2 hp2 hS10
              go_wp2_with fail
              refine (toSlice_nil _).mono ?_
              rintro e w11 ⟨rfl, hb11⟩
              have hB11 := below_trans hB10 hb11
              go_wp2
              go_ret
              exact ⟨rfl, below_trans hb2 hB11⟩
end Go.Proofs.Ytheamgcjnpljfaa.fnToSliceAgreesWithAddCount
