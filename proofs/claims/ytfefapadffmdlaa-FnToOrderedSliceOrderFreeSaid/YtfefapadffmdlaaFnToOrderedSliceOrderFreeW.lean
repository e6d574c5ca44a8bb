/- The walk of FnToOrderedSliceOrderFree. -/
import Derived.Test.YtfefapadffmdlaaFnToOrderedSliceOrderFreeB
import Derived.Test.YtfefapadffmdlaaC73Copy
import Derived.Test.YtfefapadffmdlaaC73Bytes
import Derived.Test.YtfefapadffmdlaaC73Build
import Derived.Test.YtfefapadffmdlaaCSetNew
import Derived.Test.YtfefapadffmdlaaCSetOrdered
namespace Go.Proofs.Ytfefapadffmdlaa.fnToOrderedSliceOrderFree
open Go.ChangeShapes Go.WideShapes Go.ChangeAt Go.RowKit Go.Maps
set_option linter.unusedVariables false

/-- The list from behind: what has been added when the index stands at k - 1. -/
theorem addAll_drop {acc ss : List ByteArray} {k : Nat} {s : ByteArray} (h : ss[k]? = some s) : addAll acc (ss.drop k).reverse = addS (addAll acc (ss.drop (k + 1)).reverse) s := by
  have hk : k < ss.length := by
    rcases Nat.lt_or_ge k ss.length with h' | h'
    · exact h'
    · rw [List.getElem?_eq_none h'] at h; cases h
  have : ss.drop k = s :: ss.drop (k + 1) := by
    rw [List.drop_eq_getElem_cons hk]
    rw [List.getElem?_eq_getElem hk] at h
    rw [Option.some.inj h]
  rw [this, List.reverse_cons, addAll_snoc]
/-- After r rounds. -/
def Rounds (s0 acc2 : List ByteArray) (r : Nat) : Prop := (∀ x ∈ acc2, x ∈ s0) ∧ (1 ≤ r → ∀ x ∈ s0, x ∈ acc2)

set_option maxHeartbeats 1600000 in
theorem walk (a0 : Option Addr) (len0 cap0 : Nat) (s0 : List ByteArray) (w : World) (w0 : IsStrs w a0 len0 cap0 s0) :
    Calls Try.prog 7 #[.slice a0 len0 cap0] w fun e w' => e = .returned (.bool true) ∧ Below w.heap.size w w' := by
  go_enter Try.func7, Try.ntmps7
  go_wp2_with fail
  refine (bytes_any _ _ _ _ _ w0).mono ?_
  rintro e w' ⟨r, rfl, hr, rfl⟩
  cases r
  · go_wp2_with fail
    go_ret
    exact ⟨rfl, Below.refl _ _⟩
  obtain ⟨hl, hsh⟩ := hr rfl
  clear hr
  go_wp2_with fail
  all_goals try (go_ret; exact ⟨rfl, Below.refl _ _⟩)
  refine (sbytes_any _ _ _ _ _ w0 hsh).mono ?_
  rintro e w' ⟨n, rfl, hn0, hn1, rfl⟩
  go_wp2_with fail
  all_goals try (go_ret; exact ⟨rfl, Below.refl _ _⟩)
  refine (clone_any _ _ _ s0 _ w0 hl).mono ?_
  intro e w2 hcp
  obtain ⟨x, c, rfl, _, hb2, hst, _⟩ := hcp.u w0 hl
  clear hcp
  go_wp2_with fail
  refine (build_any _ _ _ s0 _ hst hl).mono ?_
  rintro e w3 ⟨rfl, hS, hB⟩
  have Hmem : Hid (∀ x, x ∈ addAll [] s0 ↔ x ∈ s0) := fun x => by rw [mem_addAll]; simp
  have hlenS : (addAll [] s0).length ≤ 1048576 := by have := addAll_le (ss := s0) (acc := []); have h2 := w0.len; simp at this; omega
  go_wp2_with fail
  refine (newSet_any _ _ _ _ _ (strs_nil _) (by decide)).mono ?_
  rintro e w4 ⟨rfl, hset, hbm⟩
  go_wp2
  go_loopw [5] (fun i wr => ∃ (r : Nat) (acc2 : List ByteArray), r ≤ 2 ∧ i = .int .i64 r ∧ IsSet Try.prog 34 wr w3.heap.size acc2 ∧ Below w3.heap.size w3 wr ∧ Hid (Rounds s0 acc2 r)) (fun i _ => 2 - (intOf i).toNat)
  case atStart => exact ⟨0, [], by omega, rfl, hset, hbm, ⟨fun x hx => by simp at hx, fun h => by omega⟩⟩
  case round =>
    obtain ⟨r, acc2, hr2, rfl, hS2, hB2, hR⟩ := hrel
    clear hset hbm
    have hlen2 : acc2.length ≤ len0 := by have := len_le_of_sub hS2.nodup hR.out.1; rw [w0.len] at this; exact this
    have hdr : s0.drop len0 = [] := List.drop_of_length_le (by rw [w0.len]; exact Nat.le_refl _)
    by_cases hlt : r < 2
    · have hS2' := hS2
      have hdr2 : decide ((r : Int) < 2) = true := decide_eq_true (by omega)
      have hltr : (r : Int) < 2 := by omega
      go_wp2
      go_loopw [6] (fun i w5 => ∃ j : Nat, j ≤ len0 ∧ i = .int .i64 ((j : Int) - 1) ∧ IsSet Try.prog 34 w5 w3.heap.size (addAll acc2 (s0.drop j).reverse) ∧ Below w3.heap.size w3 w5) (fun i _ => (intOf i + 1).toNat)
      case atStart => exact ⟨len0, Nat.le_refl _, rfl, by rw [hdr]; exact hS2, hB2⟩
      case round =>
        obtain ⟨j, hj, rfl, hQ, hB5⟩ := hrel
        clear hS2 hS2'
        cases j with
        | succ j =>
          have hst' := (hst.keep hB).keep hB5
          obtain ⟨b, off, s, rfl, hblt, hs, hsz, hcell⟩ := hst'.at_ (show j < len0 by omega)
          have Hstep := Lib.hid (addAll_drop (acc := acc2) hs)
          have hlen : (addAll acc2 (s0.drop (j + 1)).reverse).length ≤ 2 * len0 := by have := addAll_le (ss := (s0.drop (j + 1)).reverse) (acc := acc2); simp [w0.len] at this; omega
          have hje : ((j + 1 : Nat) : Int) - 1 = (j : Int) := by omega
          have hlt' : (j : Int) < (len0 : Int) := by omega
          have hltn : j < len0 := by omega
          have hk0 : (0 : Int) ≤ (j : Int) := by omega
          rw [hje]
          clear hs hst' hje
          go_wp2_with fail
          refine (add_any _ _ s _ hQ hsz (by omega)).mono ?_
          rintro e w6 ⟨rfl, hS6, hg6⟩
          rw [← Hstep.out] at hS6
          have hB6 : Below w3.heap.size w3 w6 := below_grown hB5 hg6 (Nat.le_refl _)
          clear hg6 hQ hcell hB5 Hstep
          go_wp2
          exact ⟨⟨j, by omega, by go_num, hS6, hB6⟩, by simp [intOf]⟩
        | zero =>
          have hz : ((0 : Nat) : Int) - 1 = -1 := by omega
          rw [hz]
          rw [List.drop_zero] at hQ
          clear hz
          go_wp2
          go_roundw
          case rel =>
            have hR' : Hid (Rounds s0 (addAll acc2 s0.reverse) (r + 1)) := ⟨fun x hx => by rcases mem_addAll.1 hx with h | h; exact hR.out.1 x h; simpa using h, fun _ x hx => mem_addAll.2 (Or.inr (by simpa using hx))⟩
            first
              | exact ⟨r + 1, addAll acc2 s0.reverse, by omega, by go_num, hQ, hB5, hR'⟩
              | (repeat (with_reducible apply Exists.intro)
                 refine And.intro ?_ rfl
                 exact ⟨r + 1, addAll acc2 s0.reverse, by omega, by go_num, hQ, hB5, hR'⟩)
          case measure => simp [intOf]; omega
    · obtain ⟨w5, rfl⟩ : ∃ w5, w5 = wr := ⟨_, rfl⟩
      have hpa : acc2.Perm (addAll [] s0) := perm_of_mem hS2.nodup (addAll_nodup List.nodup_nil) fun x => ⟨fun hx => (Hmem.out x).2 (hR.out.1 x hx), fun hx => hR.out.2 (by omega) x ((Hmem.out x).1 hx)⟩
      have hS1 := hS.below hB2
      have hn2 : acc2.length = (addAll [] s0).length := hpa.length_eq
      have Hpa := Lib.hid hpa
      clear hpa hR hdr hS
      go_wp2_with fail
      refine (toOrdered_any _ _ _ hS1 hlenS).mono ?_
      rintro e w6 ⟨out1, rfl, hp1, has1, hk1, hS6, hb6, hz1⟩
      have hT6 := hS2.below hb6
      have HF1 : Hid (out1.Perm (addAll [] s0) ∧ Asc out1 ∧ ∀ s ∈ out1, s.size ≤ maxLen) := ⟨hp1, has1, hz1⟩
      have hB6 := below_trans hB2 hb6
      clear hp1 has1 hz1 hb6 hS2 hS1 hB2
      go_wp2_with fail
      refine (toOrdered_any _ _ _ hT6 (by omega)).mono ?_
      rintro e w7 ⟨out2, he, hp2, has2, hk2, hT7, hb7, hz2⟩
      rw [hn2] at he
      subst he
      have hk17 := hk1.below hb7 hk1.lt
      have hS7 := hS6.below hb7
      have e2 : out2 = out1 := asc_unique has2 HF1.out.2.1 ((hp2.trans Hpa.out).trans HF1.out.1.symm)
      subst e2
      have hB7 := below_trans hB6 hb7
      clear hp2 has2 hz2 hb7 hk1 hS6 hT6 hT7 hB6
      go_wp2_with fail
      refine (toOrdered_any _ _ _ hS7 hlenS).mono ?_
      rintro e w8 ⟨out3, rfl, hp3, has3, hk3, hS8, hb8, hz3⟩
      have hk18 := hk17.below hb8 hk17.lt
      have hk28 := hk2.below hb8 hk2.lt
      have e3 : out3 = out2 := asc_unique has3 HF1.out.2.1 (hp3.trans HF1.out.1.symm)
      subst e3
      have hB8 := below_trans hB7 hb8
      have hlo : out3.length = (addAll [] s0).length := HF1.out.1.length_eq
      have hosz : ∀ (k : Nat) (s : ByteArray), out3[k]? = some s → s.size ≤ maxLen := fun k s hs => HF1.out.2.2 s (List.mem_of_getElem? hs)
      have hb1 := strs_of_blk hk18 hlo (by unfold maxLen; omega) hosz
      have hb2' := strs_of_blk hk28 hlo (by unfold maxLen; omega) hosz
      have hb3' := strs_of_blk hk3 hlo (by unfold maxLen; omega) hosz
      have hlf := fun ty => hS8.len_ Try.underlying30 ty
      have Hosz := Lib.hid hosz
      clear hp3 has3 hz3 hb8 hk17 hk2 hk18 hk28 hk3 hS7 hosz hB7
      go_wp2
      clear hlf
      go_loopw [10] (fun i wr => ∃ k m : Nat, k ≤ (addAll [] s0).length ∧ i = .int .i64 k ∧ wr = w8.drewN m) (fun i _ => (addAll [] s0).length - (intOf i).toNat)
      case atStart => exact ⟨0, 0, Nat.zero_le _, rfl, rfl⟩
      case round =>
        obtain ⟨k, m, hk, rfl, rfl⟩ := hrel
        by_cases hlk : k < (addAll [] s0).length
        · obtain ⟨c1, o1, x1, h1, _, hs1, hz1, hc1⟩ := hb1.at_ hlk
          obtain ⟨c2, o2, x2, h2, _, hs2, hz2, hc2⟩ := hb2'.at_ hlk
          obtain ⟨c3, o3, x3, h3, _, hs3, hz3, hc3⟩ := hb3'.at_ hlk
          obtain rfl : x1 = x2 := Option.some.inj (hs1.symm.trans hs2)
          obtain rfl : x1 = x3 := Option.some.inj (hs1.symm.trans hs3)
          injection h1 with h1; injection h1 with h1 h1'; subst h1 h1'
          injection h2 with h2; injection h2 with h2 h2'; subst h2 h2'
          injection h3 with h3; injection h3 with h3 h3'; subst h3 h3'
          rw [Nat.zero_add] at hc1 hc2 hc3
          have hlt' : (k : Int) < ((addAll [] s0).length : Int) := by omega
          have hk0 : (0 : Int) ≤ (k : Int) := by omega
          clear hs1 hs2 hs3 hb1 hb2' hb3'
          go_wp2_with fail
          go_quiet (fail)
          go_wp2
          go_roundw
          case rel => exact ⟨k + 1, _, by omega, by go_num, rfl⟩
          case measure => simp [intOf]; omega
        · go_wp2
          go_ret
          exact ⟨rfl, below_drewN (below_trans (below_trans hb2 hB) hB8) _⟩
end Go.Proofs.Ytfefapadffmdlaa.fnToOrderedSliceOrderFree
