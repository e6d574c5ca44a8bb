/- The walk of FnToSliceListsDistinctMembers. -/
import Derived.Test.YtheamgcjnpljfaaFnToSliceListsDistinctMembersB
import Derived.Test.YtheamgcjnpljfaaC6Copy
import Derived.Test.YtheamgcjnpljfaaC6IdsBig
import Derived.Test.YtheamgcjnpljfaaCSetAdd
import Derived.Test.YtheamgcjnpljfaaCSetToSlice
import Derived.Test.YtheamgcjnpljfaaC6Msort
import Derived.Test.YtheamgcjnpljfaaC6Dedup
import Derived.Test.YtheamgcjnpljfaaSetMore
namespace Go.Proofs.Ytheamgcjnpljfaa.fnToSliceListsDistinctMembers
open Go.ChangeShapes Go.WideShapes Go.ChangeAt Go.RowKit Go.Maps
set_option linter.unusedVariables false

theorem drewN_two (w : World) (m n : Nat) : (w.drewN m).drewN n = w.drewN (m + n) := by simp [World.drewN, Nat.add_assoc]

set_option maxHeartbeats 3200000 in
theorem walk (a0 : Option Addr) (len0 cap0 : Nat) (s0 : List ByteArray) (w : World) (w0 : IsStrs w a0 len0 cap0 s0) :
    Calls Try.prog 7 #[.slice a0 len0 cap0] w fun e w' => e = .returned (.bool true) ∧ Below w.heap.size w w' := by
  go_enter Try.func7, Try.ntmps7
  go_wp2_with fail
  refine (bytes_any _ _ _ _ _ w0).mono ?_
  rintro e w' ⟨r, rfl, hr, rfl⟩
  cases r
  · go_wp2_with fail
    go_ret
    exact ⟨rfl, Below.refl _ _⟩
  obtain ⟨hl, hsh⟩ := hr rfl
  clear hr
  go_wp2_with fail
  all_goals try (go_ret; exact ⟨rfl, Below.refl _ _⟩)
  refine (idsBig_any _ _ _ _ _ w0 hsh).mono ?_
  rintro e w' ⟨r, rfl, _, rfl⟩
  cases r
  rotate_left
  · go_wp2_with fail
    go_ret
    exact ⟨rfl, Below.refl _ _⟩
  go_wp2_with fail
  refine (clone_any _ _ _ s0 _ w0 hl).mono ?_
  intro e w2 hcp
  obtain ⟨x, c, rfl, _, hb2, hst, _⟩ := hcp.u w0 hl
  have Hl := Lib.hid w0.len
  clear hcp w0 hsh
  have hset := isSet_made Try.prog 42 w2
  have hbm := below_alloc (Below.refl w2.heap.size w2) (.map #[] 0)
  have hmm := run_makeMap_plain (P := Try.prog) (w := w2) 40
  go_wp2_with fail
  go_loopw [4] (fun i wr => ∃ k : Nat, k ≤ len0 ∧ i = .int .i64 k ∧ IsSet Try.prog 42 wr w2.heap.size (addAll [] (s0.take k)) ∧ Below w2.heap.size w2 wr) (fun i _ => len0 - (intOf i).toNat)
  case atStart => exact ⟨0, Nat.zero_le _, rfl, hset, hbm⟩
  case round =>
    obtain ⟨k, hk, rfl, hS, hB⟩ := hrel
    clear hset hbm hmm
    by_cases hlt : k < len0
    · have hst' := hst.keep hB
      obtain ⟨b, off, s, rfl, hblt, hs, hsz, hcell⟩ := hst'.at_ hlt
      have Hstep := Lib.hid (addAll_take (acc := []) hs)
      have hlen : (addAll [] (s0.take k)).length ≤ k := by have := addAll_le (ss := s0.take k) (acc := []); simp at this; omega
      clear hs hst'
      go_wp2_with fail
      refine (add_any _ (addAll [] (s0.take k)) s _ hS hsz (by omega)).mono ?_
      rintro e w4 ⟨rfl, hS4, hg4⟩
      rw [← Hstep.out] at hS4
      have hB4 : Below w2.heap.size w2 w4 := below_grown hB hg4 (Nat.le_refl _)
      clear hg4 hS hcell hB Hstep
      go_wp2_with fail
      exact ⟨⟨k + 1, by omega, by go_num, hS4, hB4⟩, by simp [intOf]; omega⟩
    obtain ⟨w3, rfl⟩ : ∃ w3, w3 = wr := ⟨_, rfl⟩
    obtain rfl : k = len0 := by omega
    have hall : s0.take k = s0 := List.take_of_length_le (by rw [Hl.out]; exact Nat.le_refl _)
    rw [hall] at hS
    clear hall
    have hlenS := addAll_small Hl.out hl
    have hst3 := hst.keep hB
    have hB3 := below_trans hb2 hB
    clear hst hB hb2
    go_wp2_with fail
    refine (toSlice_any _ _ _ hS hlenS).mono ?_
    rintro e w4 ⟨out, rfl, hp, hk4, _, hb4, hz⟩
    have hlo : out.length = (addAll [] s0).length := hp.length_eq
    have hos := strs_of_blk hk4 hlo (by unfold maxLen; omega) (fun k s hs => hz s (List.mem_of_getElem? hs))
    have hst4 := hst3.keep hb4
    have hB4 := below_trans hB3 hb4
    have Hp := Lib.hid hp
    have Hlo := Lib.hid hlo
    clear hS hst3 hB3 hb4 hp hk4 hlo
    have hmk := make_strs (P := Try.prog) Try.underlying22 (e := 9) (by kernel_rfl) (addAll [] s0).length (by omega)
    go_wp2_with fail
    go_loopw [7] (fun i wr => ∃ j : Nat, j ≤ (addAll [] s0).length ∧ i = .int .i64 j ∧ Blk wr w4.heap.size 9 (fillA out j) ∧ Below w4.heap.size w4 wr) (fun i _ => (addAll [] s0).length - (intOf i).toNat)
    case atStart => exact ⟨0, Nat.zero_le _, rfl, by rw [fillA_zero, Hlo.out]; exact Blk.new _ _ _, below_alloc (Below.refl _ _) _⟩
    case round =>
      obtain ⟨j, hj, rfl, hblk, hbel⟩ := hrel
      clear hmk
      by_cases hlj : j < (addAll [] s0).length
      · obtain ⟨b, off, s, e1, hblt, hs, hsz, hcell⟩ := (hos.keep hbel).at_ hlj
        injection e1 with e1; injection e1 with e1 e1'; subst e1 e1'
        rw [Nat.zero_add] at hcell
        have Hs := Lib.hid hs
        clear hs
        obtain ⟨u, hu⟩ := fillA_get (ss := out) (k := j) (by rw [Hlo.out]; exact hlj)
        have hd : wr.cell? ⟨w4.heap.size, j, none⟩ = some (.string u) := (hblk.cell j).trans hu
        have hf := hblk.frozen j
        clear hu
        have Hb := Lib.hid hblk
        clear hblk
        go_wp2_with fail
        go_roundw
        case rel => exact ⟨j + 1, by omega, by go_num, (fillA_step Hs.out) ▸ Hb.out.set_ j _, below_set hbel (Nat.le_refl _) _⟩
        case measure => simp [intOf]; omega
      obtain ⟨w5, rfl⟩ : ∃ w5, w5 = wr := ⟨_, rfl⟩
      obtain rfl : j = (addAll [] s0).length := by omega
      have hgs : IsStrs w5 (some ⟨w4.heap.size, 0, none⟩) (addAll [] s0).length (addAll [] s0).length out := by
        refine strs_of_blk (E := 9) ?_ Hlo.out (by unfold maxLen; omega) hos.sizes
        rw [← fillA_end, Hlo.out]
        exact hblk
      have hst5 := hst4.keep hbel
      have hB5 := below_trans hB4 hbel
      clear hblk hbel hst4 hB4 hos
      go_wp2_with fail
      refine (msort_any _ _ _ _ out _ (Nat.le_refl _) hgs hlenS).mono ?_
      rintro e w6 ⟨g6, l, rfl, hpl, hal, hk6, hb6, _⟩
      have Hll : Hid (l.length = (addAll [] s0).length) := hpl.length_eq.trans Hlo.out
      have Hpl : Hid (l.Perm (addAll [] s0)) := hpl.trans Hp.out
      have Hal := Lib.hid hal
      have Hnd : Hid l.Nodup := Hpl.out.nodup_iff.2 (addAll_nodup List.nodup_nil)
      have hst6 := hst5.keep hb6
      have hB6 := below_trans hB5 hb6
      have hlt6 := hk6.lt
      clear hpl hal hgs hst5 hB5 hb6 Hp
      go_wp2_with fail
      go_loopw [8] (fun i wr => ∃ j m : Nat, 1 ≤ j ∧ j ≤ (addAll [] s0).length + 1 ∧ i = .int .i64 j ∧ wr = w6.drewN m) (fun i _ => (addAll [] s0).length - (intOf i).toNat)
      case atStart => exact ⟨1, 0, Nat.le_refl _, by omega, rfl, rfl⟩
      case round =>
        obtain ⟨j, m, hj1, hj, rfl, hwr⟩ := hrel
        have hk7 : Blk wr g6 9 (strA l) := by rw [hwr]; exact hk6.drewN m
        have Hwr := Lib.hid hwr
        clear hwr
        by_cases hlj : j < (addAll [] s0).length
        · obtain ⟨p, hp⟩ : ∃ p, j = p + 1 := ⟨j - 1, by omega⟩
          obtain ⟨s1, hs1, hc1⟩ := blk_at hk7 Hll.out (show p < (addAll [] s0).length by omega)
          obtain ⟨s2, hs2, hc2⟩ := blk_at hk7 Hll.out (show j < (addAll [] s0).length by omega)
          have hd : Op.bytesLess s1.toList s2.toList = true := by
            rw [less_is', ByteArray.toList_eq, ByteArray.toList_eq]
            exact asc_strict Hal.out Hnd.out hs1 (by rw [← hp]; exact hs2)
          have h1 : IntKind.i64.wrap ((j : Int) - 1) = (j : Int) - 1 := IntWalk.i64_in _ ⟨by omega, by omega⟩
          have h2 : ((j : Int) - 1).toNat = p := by omega
          have h3 : (0 : Int) ≤ (j : Int) - 1 := by omega
          have h4 : (j : Int) - 1 < ((addAll [] s0).length : Int) := by omega
          have h5 : (1 : Int) ≤ (j : Int) := by omega
          have h6 : (j : Int) < ((addAll [] s0).length : Int) := by omega
          have h7 : (0 : Int) ≤ (j : Int) := by omega
          clear hp hs1 hs2
          go_wp2_with fail
          go_quiet (fail)
          clear h1 h2
          go_wp2_with fail
          exact ⟨⟨j + 1, _, by omega, by omega, by go_num, by rw [Hwr.out]; exact drewN_two _ _ _⟩, by simp [intOf]; omega⟩
        obtain ⟨w7, rfl⟩ : ∃ w7, w7 = wr := ⟨_, rfl⟩
        have hb7 : Below w6.heap.size w6 w7 := by rw [Hwr.out]; exact below_drewN (Below.refl _ _) m
        have hst7 := hst6.keep hb7
        have hB7 := below_trans hB6 hb7
        clear Hwr hb7 hst6 hB6 hk6 hlt6
        go_wp2_with fail
        refine (msort_any _ _ _ _ s0 _ (Nat.le_refl _) hst7 hl).mono ?_
        rintro e w8 ⟨g8, l8, rfl, hpl8, hal8, hk8, hb8, _⟩
        have hl8 : l8.length = k := hpl8.length_eq.trans Hl.out
        have hs8 := strs_of_blk hk8 hl8 (by unfold maxLen; omega) (fun i s hs => sizes_of_strs hst7 s (hpl8.mem_iff.1 (List.mem_of_getElem? hs)))
        have hk78 := hk7.below hb8 hk7.lt
        have hB8 := below_trans hB7 hb8
        have Hpl8 := Lib.hid hpl8
        clear hpl8 hk8 hb8 hl8 hst7 hk7 hB7
        go_wp2_with fail
        refine (dedup_any _ _ _ l8 _ hs8 hal8 hl).mono ?_
        rintro e w9 ⟨g9, out9, he, hasc9, hnd9, hmem9, hos9, hb9⟩
        obtain rfl : out9 = l := asc_same hasc9 Hal.out hnd9 Hnd.out fun x => by rw [hmem9, Hpl8.out.mem_iff, Hpl.out.mem_iff, mem_addAll]; simp
        rw [Hll.out] at he hos9
        subst he
        have hk9 := hk78.below hb9 hk78.lt
        have hB9 := below_trans hB8 hb9
        clear hasc9 hnd9 hmem9 hb9 hk78 hB8 hs8 hal8 Hpl8
        go_wp2_with fail
        go_loopw [10] (fun i wr => ∃ j m : Nat, j ≤ (addAll [] s0).length ∧ i = .int .i64 j ∧ wr = w9.drewN m) (fun i _ => (addAll [] s0).length - (intOf i).toNat)
        case atStart => exact ⟨0, 0, Nat.zero_le _, rfl, rfl⟩
        case round =>
          obtain ⟨i', m', hi', rfl, hwr⟩ := hrel
          have hk10 : Blk wr g6 9 (strA out9) := by rw [hwr]; exact hk9.drewN m'
          have hos10 : IsStrs wr (some ⟨g9, 0, none⟩) (addAll [] s0).length k out9 := by rw [hwr]; exact hos9.drewN m'
          have Hwr := Lib.hid hwr
          clear hwr
          by_cases hli : i' < (addAll [] s0).length
          · obtain ⟨s1, hs1, hc1⟩ := blk_at hk10 Hll.out hli
            obtain ⟨b, off, s2, e1, hblt, hs2, hsz, hc2⟩ := hos10.at_ hli
            injection e1 with e1; injection e1 with e1 e1'; subst e1 e1'
            rw [Nat.zero_add] at hc2
            obtain rfl : s1 = s2 := Option.some.inj (hs1.symm.trans hs2)
            have h6 : (i' : Int) < ((addAll [] s0).length : Int) := by omega
            have h7 : (0 : Int) ≤ (i' : Int) := by omega
            clear hs1 hs2 hk10 hos10
            go_wp2_with fail
            go_quiet (fail)
            go_wp2_with fail
            exact ⟨⟨i' + 1, _, by omega, by go_num, by rw [Hwr.out]; exact drewN_two _ _ _⟩, by simp [intOf]; omega⟩
          · go_wp2_with fail
            go_ret
            refine ⟨rfl, ?_⟩
            rw [Hwr.out]
            exact below_drewN hB9 _
end Go.Proofs.Ytheamgcjnpljfaa.fnToSliceListsDistinctMembers
