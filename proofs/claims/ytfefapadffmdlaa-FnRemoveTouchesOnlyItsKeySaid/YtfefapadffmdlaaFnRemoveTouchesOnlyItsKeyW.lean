/- The walk of FnRemoveTouchesOnlyItsKey. -/
import Derived.Test.YtfefapadffmdlaaFnRemoveTouchesOnlyItsKeyB
import Derived.Test.YtfefapadffmdlaaC73Copy
import Derived.Test.YtfefapadffmdlaaC73Bytes
import Derived.Test.YtfefapadffmdlaaC73Build
import Derived.Test.YtfefapadffmdlaaCSetContains
import Derived.Test.YtfefapadffmdlaaCSetRemove
import Derived.Test.YtfefapadffmdlaaC73Idx
namespace Go.Proofs.Ytfefapadffmdlaa.fnRemoveTouchesOnlyItsKey
open Go.ChangeShapes Go.WideShapes Go.ChangeAt Go.RowKit Go.Maps
set_option linter.unusedVariables false

set_option maxHeartbeats 1600000 in
theorem walk (a0 : Option Addr) (len0 cap0 : Nat) (s0 : List ByteArray) (a1 : ByteArray) (w : World) (w0 : IsStrs w a0 len0 cap0 s0) (w1 : a1.size ≤ maxLen) :
    Calls Try.prog 8 #[.slice a0 len0 cap0, .string a1] w fun e w' => e = .returned (.bool true) ∧ Below w.heap.size w w' := by
  go_enter Try.func8, Try.ntmps8
  go_wp2_with fail
  refine (bytes_any _ _ _ _ _ _ w0 w1).mono ?_
  rintro e w' ⟨r, rfl, hr, rfl⟩
  cases r
  · go_wp2_with fail
    go_ret
    exact ⟨rfl, Below.refl _ _⟩
  obtain ⟨hl, hsh, hq⟩ := hr rfl
  clear hr
  go_wp2_with fail
  all_goals try (go_ret; exact ⟨rfl, Below.refl _ _⟩)
  refine (sbytes_any _ _ _ _ _ w0 hsh).mono ?_
  rintro e w' ⟨n, rfl, hn0, hn1, rfl⟩
  go_wp2_with fail
  all_goals try (go_ret; exact ⟨rfl, Below.refl _ _⟩)
  refine (clone_any _ _ _ s0 _ w0 hl).mono ?_
  intro e w2 hcp
  obtain ⟨x, c, rfl, _, hb2, hst, _⟩ := hcp.u w0 hl
  clear hcp
  go_wp2_with fail
  refine (build_any _ _ _ s0 _ hst hl).mono ?_
  rintro e w3 ⟨rfl, hS, hB⟩
  have Hmem : Hid (∀ x, x ∈ addAll [] s0 ↔ x ∈ s0) := fun x => by rw [mem_addAll]; simp
  have hlenS : (addAll [] s0).length ≤ 1048576 := by have := addAll_le (ss := s0) (acc := []); have h2 := w0.len; simp at this; omega
  by_cases h : a1 ∈ s0
  · have hd : decide (a1 ∈ addAll [] s0) = true := by simp [Hmem.out, h]
    have hz : (0 : Int) ≤ idxOf a1 s0 := by have h1 := idxOf_neg a1 s0; have : ¬ idxOf a1 s0 < 0 := fun h2 => h1.1 h2 h; omega
    have hno : decide (a1 ∈ remS (addAll [] s0) a1) = false := by simp [mem_remS]
    have hlz : ((remS (addAll [] s0) a1).length : Int) = ((addAll [] s0).length : Int) - 1 := by have := length_remS hS.nodup ((Hmem.out a1).2 h); omega
    have hrr : remS (remS (addAll [] s0) a1) a1 = remS (addAll [] s0) a1 := remS_none (by simp [mem_remS])
    have hdn : decide (a1 ∉ remS (addAll [] s0) a1) = true := by simp [mem_remS]
    have hle := length_remS_le (addAll [] s0) a1
    clear h
    go_wp2_with (at_len; refine wpList_len_set rfl _ 30 rfl 34 42 Try.underlying30 _ _ rfl (by assumption) ?_)
    refine (contains_any _ _ a1 _ hS w1).mono ?_
    rintro e w4 ⟨he, hb4⟩
    rw [hd] at he
    subst he
    have hS4 := hS.below hb4
    have hB4 := below_trans hB hb4
    clear hd hS hB hb4
    go_wp2_with fail
    refine (idx_any _ _ _ _ s0 _ (hst.keep hB4)).mono ?_
    rintro e w5 ⟨rfl, rfl⟩
    go_wp2_with fail
    refine (remove_any _ _ a1 _ hS4 w1).mono ?_
    rintro e w6 ⟨rfl, hS6, hg6⟩
    have hB6 : Below w2.heap.size w2 w6 := below_grown hB4 hg6 (Nat.le_refl _)
    clear hS4 hB4 hg6
    go_wp2_with fail
    refine (contains_any _ _ a1 _ hS6 w1).mono ?_
    rintro e w7 ⟨he, hb7⟩
    rw [hno] at he
    subst he
    have hS7 := hS6.below hb7
    have hB7 := below_trans hB6 hb7
    have hlf := fun ty => hS7.len_ Try.underlying30 ty
    rw [hlz] at hlf
    clear hS6 hB6 hb7
    go_wp2
    clear hlf
    go_loopw [8] (fun i wr => ∃ k : Nat, k ≤ len0 ∧ i = .int .i64 k ∧ Below w7.heap.size w7 wr) (fun i _ => len0 - (intOf i).toNat)
    case atStart => exact ⟨0, Nat.zero_le _, rfl, Below.refl _ _⟩
    case round =>
      obtain ⟨k, hk, rfl, hBk⟩ := hrel
      by_cases hlt : k < len0
      · have hst' := (hst.keep hB7).keep hBk
        obtain ⟨b, off, s, rfl, hblt, hs, hsz, hcell⟩ := hst'.at_ hlt
        by_cases hsa : s = a1
        · subst hsa
          have hq0 : (s.toList == s.toList) = true := by simp
          have hq1 : (s.toList != s.toList) = false := by simp
          clear hs hst'
          go_wp2
          exact ⟨⟨k + 1, by omega, by go_num, hBk⟩, by simp [intOf]; omega⟩
        · have hq0 : (s.toList == a1.toList) = false := by rw [bytes_eq_iff]; simp [hsa]
          have hq1 : (s.toList != a1.toList) = true := by rw [bne, hq0]; rfl
          have hin : decide (s ∈ remS (addAll [] s0) a1) = true := by simp [mem_remS, Hmem.out, List.mem_of_getElem? hs, hsa]
          have hS7k := hS7.below hBk
          clear hs hst' hsa
          go_wp2_with (go_at_call 18; refine (contains_any _ _ s _ hS7k hsz).mono ?_; rintro e wz ⟨he, hbz⟩; rw [hin] at he; subst he)
          exact ⟨⟨k + 1, by omega, by go_num, below_trans hBk hbz⟩, by simp [intOf]; omega⟩
      obtain ⟨w8, rfl⟩ : ∃ wn, wn = wr := ⟨_, rfl⟩
      have hS8 := hS7.below hBk
      have hB8 := below_trans hB7 hBk
      clear hBk hS7 hB7
      go_wp2_with (at_len; refine wpList_len_set rfl _ 30 rfl 34 42 Try.underlying30 _ _ rfl (by assumption) ?_)
      refine (remove_any _ _ a1 _ hS8 w1).mono ?_
      rintro e w9 ⟨rfl, hS9, hg9⟩
      have hB9 : Below w2.heap.size w2 w9 := below_grown hB8 hg9 (Nat.le_refl _)
      rw [hrr] at hS9
      clear hS8 hB8 hg9
      go_wp2_with (at_len; refine wpList_len_set rfl _ 30 rfl 34 42 Try.underlying30 _ _ rfl (by assumption) ?_)
      refine (contains_any _ _ a1 _ hS9 w1).mono ?_
      rintro e w10 ⟨he, hb10⟩
      rw [hno] at he
      subst he
      have hS10 := hS9.below hb10
      have hB10 := below_trans hB9 hb10
      clear hS9 hB9 hb10
      go_wp2
      go_loopw [10] (fun i wr => ∃ k : Nat, k ≤ len0 ∧ i = .int .i64 k ∧ Below w10.heap.size w10 wr) (fun i _ => len0 - (intOf i).toNat)
      case atStart => exact ⟨0, Nat.zero_le _, rfl, Below.refl _ _⟩
      case round =>
        obtain ⟨k, hk, rfl, hBk⟩ := hrel
        by_cases hlt : k < len0
        · have hst' := (hst.keep hB10).keep hBk
          obtain ⟨b, off, s, rfl, hblt, hs, hsz, hcell⟩ := hst'.at_ hlt
          by_cases hsa : s = a1
          · subst hsa
            have hq0 : (s.toList == s.toList) = true := by simp
            have hq1 : (s.toList != s.toList) = false := by simp
            clear hs hst'
            go_wp2
            exact ⟨⟨k + 1, by omega, by go_num, hBk⟩, by simp [intOf]; omega⟩
          · have hq0 : (s.toList == a1.toList) = false := by rw [bytes_eq_iff]; simp [hsa]
            have hq1 : (s.toList != a1.toList) = true := by rw [bne, hq0]; rfl
            have hin : decide (s ∈ remS (addAll [] s0) a1) = true := by simp [mem_remS, Hmem.out, List.mem_of_getElem? hs, hsa]
            have hS10k := hS10.below hBk
            clear hs hst' hsa
            go_wp2_with (go_at_call 18; refine (contains_any _ _ s _ hS10k hsz).mono ?_; rintro e wz ⟨he, hbz⟩; rw [hin] at he; subst he)
            exact ⟨⟨k + 1, by omega, by go_num, below_trans hBk hbz⟩, by simp [intOf]; omega⟩
        obtain ⟨w11, rfl⟩ : ∃ wn, wn = wr := ⟨_, rfl⟩
        have hS11 := hS10.below hBk
        have hB11 := below_trans hB10 hBk
        clear hBk hS10 hB10
        go_wp2_with fail
        refine (add_any _ _ a1 _ hS11 w1 (by omega)).mono ?_
        rintro e w12 ⟨he, hS12, hg12⟩
        rw [hdn] at he
        subst he
        have hB12 : Below w2.heap.size w2 w12 := below_grown hB11 hg12 (Nat.le_refl _)
        go_wp2
        go_ret
        exact ⟨rfl, below_trans hb2 hB12⟩
  · have hd : decide (a1 ∈ addAll [] s0) = false := by simp [Hmem.out, h]
    have hz : idxOf a1 s0 < (0 : Int) := (idxOf_neg a1 s0).2 h
    have hno : decide (a1 ∈ remS (addAll [] s0) a1) = false := by simp [mem_remS]
    have hlz : ((remS (addAll [] s0) a1).length : Int) = ((addAll [] s0).length : Int) := by rw [remS_none (fun h2 => h ((Hmem.out a1).1 h2))]
    have hrr : remS (remS (addAll [] s0) a1) a1 = remS (addAll [] s0) a1 := remS_none (by simp [mem_remS])
    have hdn : decide (a1 ∉ remS (addAll [] s0) a1) = true := by simp [mem_remS]
    have hle := length_remS_le (addAll [] s0) a1
    clear h
    go_wp2_with (at_len; refine wpList_len_set rfl _ 30 rfl 34 42 Try.underlying30 _ _ rfl (by assumption) ?_)
    refine (contains_any _ _ a1 _ hS w1).mono ?_
    rintro e w4 ⟨he, hb4⟩
    rw [hd] at he
    subst he
    have hS4 := hS.below hb4
    have hB4 := below_trans hB hb4
    clear hd hS hB hb4
    go_wp2_with fail
    refine (idx_any _ _ _ _ s0 _ (hst.keep hB4)).mono ?_
    rintro e w5 ⟨rfl, rfl⟩
    go_wp2_with fail
    refine (remove_any _ _ a1 _ hS4 w1).mono ?_
    rintro e w6 ⟨rfl, hS6, hg6⟩
    have hB6 : Below w2.heap.size w2 w6 := below_grown hB4 hg6 (Nat.le_refl _)
    clear hS4 hB4 hg6
    go_wp2_with fail
    refine (contains_any _ _ a1 _ hS6 w1).mono ?_
    rintro e w7 ⟨he, hb7⟩
    rw [hno] at he
    subst he
    have hS7 := hS6.below hb7
    have hB7 := below_trans hB6 hb7
    have hlf := fun ty => hS7.len_ Try.underlying30 ty
    rw [hlz] at hlf
    clear hS6 hB6 hb7
    go_wp2
    clear hlf
    go_loopw [8] (fun i wr => ∃ k : Nat, k ≤ len0 ∧ i = .int .i64 k ∧ Below w7.heap.size w7 wr) (fun i _ => len0 - (intOf i).toNat)
    case atStart => exact ⟨0, Nat.zero_le _, rfl, Below.refl _ _⟩
    case round =>
      obtain ⟨k, hk, rfl, hBk⟩ := hrel
      by_cases hlt : k < len0
      · have hst' := (hst.keep hB7).keep hBk
        obtain ⟨b, off, s, rfl, hblt, hs, hsz, hcell⟩ := hst'.at_ hlt
        by_cases hsa : s = a1
        · subst hsa
          have hq0 : (s.toList == s.toList) = true := by simp
          have hq1 : (s.toList != s.toList) = false := by simp
          clear hs hst'
          go_wp2
          exact ⟨⟨k + 1, by omega, by go_num, hBk⟩, by simp [intOf]; omega⟩
        · have hq0 : (s.toList == a1.toList) = false := by rw [bytes_eq_iff]; simp [hsa]
          have hq1 : (s.toList != a1.toList) = true := by rw [bne, hq0]; rfl
          have hin : decide (s ∈ remS (addAll [] s0) a1) = true := by simp [mem_remS, Hmem.out, List.mem_of_getElem? hs, hsa]
          have hS7k := hS7.below hBk
          clear hs hst' hsa
          go_wp2_with (go_at_call 18; refine (contains_any _ _ s _ hS7k hsz).mono ?_; rintro e wz ⟨he, hbz⟩; rw [hin] at he; subst he)
          exact ⟨⟨k + 1, by omega, by go_num, below_trans hBk hbz⟩, by simp [intOf]; omega⟩
      obtain ⟨w8, rfl⟩ : ∃ wn, wn = wr := ⟨_, rfl⟩
      have hS8 := hS7.below hBk
      have hB8 := below_trans hB7 hBk
      clear hBk hS7 hB7
      go_wp2_with (at_len; refine wpList_len_set rfl _ 30 rfl 34 42 Try.underlying30 _ _ rfl (by assumption) ?_)
      refine (remove_any _ _ a1 _ hS8 w1).mono ?_
      rintro e w9 ⟨rfl, hS9, hg9⟩
      have hB9 : Below w2.heap.size w2 w9 := below_grown hB8 hg9 (Nat.le_refl _)
      rw [hrr] at hS9
      clear hS8 hB8 hg9
      go_wp2_with (at_len; refine wpList_len_set rfl _ 30 rfl 34 42 Try.underlying30 _ _ rfl (by assumption) ?_)
      refine (contains_any _ _ a1 _ hS9 w1).mono ?_
      rintro e w10 ⟨he, hb10⟩
      rw [hno] at he
      subst he
      have hS10 := hS9.below hb10
      have hB10 := below_trans hB9 hb10
      clear hS9 hB9 hb10
      go_wp2
      go_loopw [10] (fun i wr => ∃ k : Nat, k ≤ len0 ∧ i = .int .i64 k ∧ Below w10.heap.size w10 wr) (fun i _ => len0 - (intOf i).toNat)
      case atStart => exact ⟨0, Nat.zero_le _, rfl, Below.refl _ _⟩
      case round =>
        obtain ⟨k, hk, rfl, hBk⟩ := hrel
        by_cases hlt : k < len0
        · have hst' := (hst.keep hB10).keep hBk
          obtain ⟨b, off, s, rfl, hblt, hs, hsz, hcell⟩ := hst'.at_ hlt
          by_cases hsa : s = a1
          · subst hsa
            have hq0 : (s.toList == s.toList) = true := by simp
            have hq1 : (s.toList != s.toList) = false := by simp
            clear hs hst'
            go_wp2
            exact ⟨⟨k + 1, by omega, by go_num, hBk⟩, by simp [intOf]; omega⟩
          · have hq0 : (s.toList == a1.toList) = false := by rw [bytes_eq_iff]; simp [hsa]
            have hq1 : (s.toList != a1.toList) = true := by rw [bne, hq0]; rfl
            have hin : decide (s ∈ remS (addAll [] s0) a1) = true := by simp [mem_remS, Hmem.out, List.mem_of_getElem? hs, hsa]
            have hS10k := hS10.below hBk
            clear hs hst' hsa
            go_wp2_with (go_at_call 18; refine (contains_any _ _ s _ hS10k hsz).mono ?_; rintro e wz ⟨he, hbz⟩; rw [hin] at he; subst he)
            exact ⟨⟨k + 1, by omega, by go_num, below_trans hBk hbz⟩, by simp [intOf]; omega⟩
        obtain ⟨w11, rfl⟩ : ∃ wn, wn = wr := ⟨_, rfl⟩
        have hS11 := hS10.below hBk
        have hB11 := below_trans hB10 hBk
        clear hBk hS10 hB10
        go_wp2_with fail
        refine (add_any _ _ a1 _ hS11 w1 (by omega)).mono ?_
        rintro e w12 ⟨he, hS12, hg12⟩
        rw [hdn] at he
        subst he
        have hB12 : Below w2.heap.size w2 w12 := below_grown hB11 hg12 (Nat.le_refl _)
        go_wp2
        go_ret
        exact ⟨rfl, below_trans hb2 hB12⟩
end Go.Proofs.Ytfefapadffmdlaa.fnRemoveTouchesOnlyItsKey
