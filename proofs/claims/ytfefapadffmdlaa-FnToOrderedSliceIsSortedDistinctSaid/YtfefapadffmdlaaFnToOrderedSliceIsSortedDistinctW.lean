/- The walk of FnToOrderedSliceIsSortedDistinct. -/
import Derived.Test.YtfefapadffmdlaaFnToOrderedSliceIsSortedDistinctB
import Derived.Test.YtfefapadffmdlaaC73Copy
import Derived.Test.YtfefapadffmdlaaC73Bytes
import Derived.Test.YtfefapadffmdlaaC73Build
import Derived.Test.YtfefapadffmdlaaCSetOrdered
import Derived.Test.YtfefapadffmdlaaC73Sort
namespace Go.Proofs.Ytfefapadffmdlaa.fnToOrderedSliceIsSortedDistinct
open Go.ChangeShapes Go.WideShapes Go.ChangeAt Go.RowKit Go.Maps
set_option linter.unusedVariables false

theorem drewN_two (w : World) (m n : Nat) : (w.drewN m).drewN n = w.drewN (m + n) := by simp [World.drewN, Nat.add_assoc]

set_option maxHeartbeats 1600000 in
theorem walk (a0 : Option Addr) (len0 cap0 : Nat) (s0 : List ByteArray) (w : World) (w0 : IsStrs w a0 len0 cap0 s0) :
    Calls Try.prog 6 #[.slice a0 len0 cap0] w fun e w' => e = .returned (.bool true) ∧ Below w.heap.size w w' := by
  go_enter Try.func6, Try.ntmps6
  go_wp2_with fail
  refine (bytes_any _ _ _ _ _ w0).mono ?_
  rintro e w' ⟨r, rfl, hr, rfl⟩
  cases r
  · go_wp2_with fail
    go_ret
    exact ⟨rfl, Below.refl _ _⟩
  obtain ⟨hl, hsh⟩ := hr rfl
  clear hr
  go_wp2_with fail
  all_goals try (go_ret; exact ⟨rfl, Below.refl _ _⟩)
  refine (sbytes_any _ _ _ _ _ w0 hsh).mono ?_
  rintro e w' ⟨n, rfl, hn0, hn1, rfl⟩
  go_wp2_with fail
  all_goals try (go_ret; exact ⟨rfl, Below.refl _ _⟩)
  refine (clone_any _ _ _ s0 _ w0 hl).mono ?_
  intro e w2 hcp
  obtain ⟨x, c, rfl, _, hb2, hst, _⟩ := hcp.u w0 hl
  clear hcp
  go_wp2_with fail
  refine (build_any _ _ _ s0 _ hst hl).mono ?_
  rintro e w3 ⟨rfl, hS, hB⟩
  have Hmem : Hid (∀ x, x ∈ addAll [] s0 ↔ x ∈ s0) := fun x => by rw [mem_addAll]; simp
  have hlenS : (addAll [] s0).length ≤ 1048576 := by have := addAll_le (ss := s0) (acc := []); have h2 := w0.len; simp at this; omega
  have hst3 := hst.keep hB
  have hB3 := below_trans hb2 hB
  clear hst hB hb2 Hmem
  go_wp2_with fail
  refine (toOrdered_any _ _ _ hS hlenS).mono ?_
  rintro e w4 ⟨out, rfl, hp, hasc, hk4, hS4, hb4, hz⟩
  have Hlo : Hid (out.length = (addAll [] s0).length) := hp.length_eq
  have hst4 := hst3.keep hb4
  have hB4 := below_trans hB3 hb4
  have Hasc := Lib.hid hasc
  have Hp := Lib.hid hp
  clear hS hst3 hB3 hb4 hasc hp hz
  go_wp2_with fail
  refine (sortDed_any _ _ _ s0 _ hst4 hl).mono ?_
  rintro e w5 ⟨g, out2, he, hasc2, hnd, hmem, hos, hb5⟩
  obtain rfl : out2 = out := asc_same hasc2 Hasc.out hnd (Hp.out.nodup_iff.2 (addAll_nodup List.nodup_nil)) fun x => by rw [hmem, Hp.out.mem_iff, mem_addAll]; simp
  rw [Hlo.out] at he hos
  subst he
  have hk5 := hk4.below hb5 hk4.lt
  have hS5 := hS4.below hb5
  have hB5 := below_trans hB4 hb5
  have hlf := fun ty => hS5.len_ Try.underlying30 ty
  clear hk4 hS4 hst4 hB4 hb5 hasc2 hnd hmem
  go_wp2_with fail
  go_loopw [6] (fun i wr => ∃ j m : Nat, j ≤ (addAll [] s0).length ∧ i = .int .i64 j ∧ wr = w5.drewN m) (fun i _ => (addAll [] s0).length - (intOf i).toNat)
  case atStart => exact ⟨0, 0, Nat.zero_le _, rfl, rfl⟩
  case round =>
    obtain ⟨j, m, hj, rfl, hwr⟩ := hrel
    clear hlf
    have hk6 : Blk wr w3.heap.size 34 (strA out2) := by rw [hwr]; exact hk5.drewN m
    have hos6 : IsStrs wr (some ⟨g, 0, none⟩) (addAll [] s0).length len0 out2 := by rw [hwr]; exact hos.drewN m
    have Hwr := Lib.hid hwr
    clear hwr
    by_cases hlj : j < (addAll [] s0).length
    · obtain ⟨s1, hs1, hc1⟩ := blk_at hk6 Hlo.out hlj
      obtain ⟨b, off, s2, e1, hblt, hs2, hsz, hc2⟩ := hos6.at_ hlj
      injection e1 with e1; injection e1 with e1 e1'; subst e1 e1'
      rw [Nat.zero_add] at hc2
      obtain rfl : s1 = s2 := Option.some.inj (hs1.symm.trans hs2)
      have h6 : (j : Int) < ((addAll [] s0).length : Int) := by omega
      have h7 : (0 : Int) ≤ (j : Int) := by omega
      clear hs1 hs2 hk6 hos6
      go_wp2_with fail
      go_quiet (fail)
      go_wp2_with fail
      exact ⟨⟨j + 1, _, by omega, by go_num, by rw [Hwr.out]; exact drewN_two _ _ _⟩, by simp [intOf]; omega⟩
    · go_wp2_with fail
      go_ret
      refine ⟨rfl, ?_⟩
      rw [Hwr.out]
      exact below_drewN hB5 _
end Go.Proofs.Ytfefapadffmdlaa.fnToOrderedSliceIsSortedDistinct
