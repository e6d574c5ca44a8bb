/- The walk of FnLiteralFieldSetAddReportsFirstSighting. -/
import Derived.Test.YtenmcojmcnbdbaaFnLiteralFieldSetAddReportsFirstSightingB
import Derived.Test.YtenmcojmcnbdbaaC138Copy
import Derived.Test.YtenmcojmcnbdbaaC138Bytes
import Derived.Test.YtenmcojmcnbdbaaLSetAdd
import Derived.Test.YtenmcojmcnbdbaaLSetContains
namespace Go.Proofs.Ytenmcojmcnbdbaa.fnLiteralFieldSetAddReportsFirstSighting
open Go.ChangeShapes Go.WideShapes Go.ChangeAt Go.RowKit Go.Maps
set_option linter.unusedVariables false

theorem adds_any (b : Nat) (acc : List ByteArray) (s : ByteArray) (w : World) (h : IsSet Try.prog 32 w b acc) (hs : s.size ≤ maxLen) (hn : acc.length < 4294967296) :
    Calls Try.prog 8 #[.map (some b), .string s] w (AddPost w b acc s) := by
  go_enter Try.func8, Try.ntmps8
  go_wp2_with fail
  refine (add_any _ _ s _ h hs hn).mono ?_
  rintro e w4 ⟨rfl, hS4, hg4⟩
  go_wp2
  go_ret
  exact ⟨by simp, hS4, hg4⟩

set_option maxHeartbeats 1600000 in
theorem walk (a0 : Option Addr) (len0 cap0 : Nat) (s0 : List ByteArray) (w : World) (w0 : IsStrs w a0 len0 cap0 s0) :
    Calls Try.prog 3 #[.slice a0 len0 cap0] w fun e w' => e = .returned (.bool true) ∧ Below w.heap.size w w' := by
  go_enter Try.func3, Try.ntmps3
  go_wp2_with fail
  refine (bytes_any _ _ _ _ _ w0).mono ?_
  rintro e w' ⟨r, rfl, hr, rfl⟩
  cases r
  · go_wp2_with fail
    go_ret
    exact ⟨rfl, Below.refl _ _⟩
  obtain ⟨hl, hsh⟩ := hr rfl
  clear hr
  go_wp2_with fail
  all_goals try (go_ret; exact ⟨rfl, Below.refl _ _⟩)
  refine (sbytes_any _ _ _ _ _ w0 hsh).mono ?_
  rintro e w' ⟨n, rfl, hn0, hn1, rfl⟩
  go_wp2_with fail
  all_goals try (go_ret; exact ⟨rfl, Below.refl _ _⟩)
  refine (clone_any _ _ _ s0 _ w0 hl).mono ?_
  intro e w2 hcp
  obtain ⟨x, c, rfl, _, hb2, hst, _⟩ := hcp.u w0 hl
  clear hcp
  have hset := isSet_made Try.prog 32 w2
  have hbm := below_alloc (Below.refl w2.heap.size w2) (.map #[] 0)
  have hmm := run_makeMap_plain (P := Try.prog) (w := w2) 27
  go_wp2_with (go_at_call 7; go_in)
  go_loopw [4, 5] (fun d i wr => ∃ k : Nat, k ≤ len0 ∧ i = .int .i64 k ∧ d = .int .i64 ((addAll [] (s0.take k)).length : Int) ∧ IsSet Try.prog 32 wr w2.heap.size (addAll [] (s0.take k)) ∧ Below w2.heap.size w2 wr) (fun _ i _ => len0 - (intOf i).toNat)
  case atStart => exact ⟨0, Nat.zero_le _, rfl, rfl, hset, hbm⟩
  case round =>
    obtain ⟨k, hk, rfl, rfl, hS, hB⟩ := hrel
    clear hset hbm
    by_cases hlt : k < len0
    · have hst' := hst.keep hB
      obtain ⟨b, off, s, rfl, hblt, hs, hsz, hcell⟩ := hst'.at_ hlt
      have Hmem : Hid (s ∈ addAll [] (s0.take k) ↔ s ∈ s0.take k) := by unfold Hid; rw [mem_addAll]; simp
      have Hstep := Lib.hid (addAll_take (acc := []) hs)
      have hlen : (addAll [] (s0.take k)).length ≤ k := by have := addAll_le (ss := s0.take k) (acc := []); simp at this; omega
      clear hs
      go_wp2
      go_loop [7, 8] (fun v i => ∃ j : Nat, j ≤ k ∧ i = .int .i64 j ∧ v = .bool false ∧ Hid (s ∉ s0.take j)) (fun _ i => k - (intOf i).toNat)
      case atStart => exact ⟨0, Nat.zero_le _, rfl, rfl, by simp [Hid]⟩
      case round =>
        obtain ⟨j, hj, rfl, rfl, hno⟩ := hrel
        by_cases hlj : j < k
        · obtain ⟨b', off', t, hbb, hblt', ht, htz, htc⟩ := hst'.at_ (show j < len0 by omega)
          injection hbb with hbb
          injection hbb with hb1 hb3
          subst hb1 hb3
          by_cases hts : t = s
          · obtain rfl : s = t := hts.symm
            have hq : (s.toList == s.toList) = true := by simp
            have hin : s ∈ s0.take k := by
              rw [List.mem_take_iff_getElem]
              have hjl : j < s0.length := by have := hst.len; omega
              refine ⟨j, by omega, ?_⟩
              rw [List.getElem?_eq_getElem hjl] at ht
              exact Option.some.inj ht
            clear ht hno hst'
            have hd2 : decide (s ∉ addAll [] (s0.take k)) = false := by simp [Hmem.out, hin]
            have hst2 : (addAll [] (s0.take (k + 1))).length = (addAll [] (s0.take k)).length := by rw [Hstep.out, addS, if_pos (Hmem.out.2 hin)]
            have hin2 : decide (s ∈ addAll [] (s0.take (k + 1))) = true := by rw [Hstep.out]; simp [mem_addS]
            clear Hmem hin
            go_wp2_with fail
            refine (adds_any _ (addAll [] (s0.take k)) s _ hS hsz (by omega)).mono ?_
            rintro e w4 ⟨he, hS4, hg4⟩
            rw [hd2] at he
            subst he
            rw [← Hstep.out] at hS4
            have hB4 : Below w2.heap.size w2 w4 := below_grown hB hg4 (Nat.le_refl _)
            clear hd2 hg4 hS hcell hB Hstep
            go_wp2_with fail
            refine (contains_any _ _ s _ hS4 hsz).mono ?_
            rintro e w5 ⟨he, hb5⟩
            rw [hin2] at he
            subst he
            have hS5 := hS4.below hb5
            have hB5 := below_trans hB4 hb5
            clear hS4 hB4 hb5 hin2
            go_wp2
            go_roundw
            case rel =>
              repeat (with_reducible apply Exists.intro)
              refine And.intro ?_ rfl
              exact ⟨k + 1, by omega, by go_num, by first | rw [hst2]; done | (rw [hst2]; simp), hS5, hB5⟩
            case measure => simp [intOf]; omega
          · have hq : (t.toList == s.toList) = false := by rw [bytes_eq_iff]; simp [hts]
            have hnx := Lib.hid (take_miss ht hno.out hts)
            clear ht hno hts
            go_wp2
            go_round
            case rel => exact ⟨j + 1, by omega, by go_num, rfl, hnx.out⟩
            case measure => simp [intOf]; omega
        · have hin : s ∉ s0.take k := by rw [← show j = k by omega]; exact hno.out
          clear hno hst'
          have hd2 : decide (s ∉ addAll [] (s0.take k)) = true := by simp [Hmem.out, hin]
          have hst2 : (addAll [] (s0.take (k + 1))).length = (addAll [] (s0.take k)).length + 1 := by rw [Hstep.out, addS, if_neg (fun h => hin (Hmem.out.1 h))]; simp
          have hin2 : decide (s ∈ addAll [] (s0.take (k + 1))) = true := by rw [Hstep.out]; simp [mem_addS]
          clear Hmem hin
          go_wp2_with fail
          refine (adds_any _ (addAll [] (s0.take k)) s _ hS hsz (by omega)).mono ?_
          rintro e w4 ⟨he, hS4, hg4⟩
          rw [hd2] at he
          subst he
          rw [← Hstep.out] at hS4
          have hB4 : Below w2.heap.size w2 w4 := below_grown hB hg4 (Nat.le_refl _)
          clear hd2 hg4 hS hcell hB Hstep
          go_wp2_with fail
          refine (contains_any _ _ s _ hS4 hsz).mono ?_
          rintro e w5 ⟨he, hb5⟩
          rw [hin2] at he
          subst he
          have hS5 := hS4.below hb5
          have hB5 := below_trans hB4 hb5
          clear hS4 hB4 hb5 hin2
          go_wp2
          go_roundw
          case rel =>
            repeat (with_reducible apply Exists.intro)
            refine And.intro ?_ rfl
            exact ⟨k + 1, by omega, by go_num, by first | rw [hst2]; done | (rw [hst2]; simp), hS5, hB5⟩
          case measure => simp [intOf]; omega
    · obtain rfl : k = len0 := by omega
      go_wp2_with (first | (go_at_call 10; go_in) | (at_len; refine wpList_len_set rfl _ 27 rfl 32 33 Try.underlying27 _ _ rfl (by assumption) ?_))
      go_ret
      exact ⟨rfl, below_trans hb2 hB⟩
end Go.Proofs.Ytenmcojmcnbdbaa.fnLiteralFieldSetAddReportsFirstSighting
