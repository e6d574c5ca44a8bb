/- The walk of FnOrderedSliceSortedAndComplete. -/
import Derived.Test.YtekjhcfnaaihmaaFnOrderedSliceSortedAndCompleteB
import Derived.Test.YtekjhcfnaaihmaaC162Bytes
import Derived.Test.YtekjhcfnaaihmaaC162Distinct
import Derived.Test.YtekjhcfnaaihmaaC162Less
import Derived.Test.YtekjhcfnaaihmaaCSetNew
import Derived.Test.YtekjhcfnaaihmaaCSetAdd
import Derived.Test.YtekjhcfnaaihmaaCSetOrdered
namespace Go.Proofs.Ytekjhcfnaaihmaa.fnOrderedSliceSortedAndComplete
open Go.ChangeShapes Go.WideShapes Go.ChangeAt Go.RowKit Go.Maps
set_option linter.unusedVariables false

theorem asc_strict {l : List ByteArray} (h : Asc l) (hn : l.Nodup) {i : Nat} {s t : ByteArray} (hs : l[i]? = some s) (ht : l[i + 1]? = some t) : Sort.ltStr s.data.toList t.data.toList = true := by
  have h1 := h i (i + 1) s t (Nat.lt_succ_self i) hs ht
  have hi : i + 1 < l.length := by
    rcases Nat.lt_or_ge (i + 1) l.length with h' | h'
    · exact h'
    · rw [List.getElem?_eq_none h'] at ht; cases ht
  have hne : s ≠ t := fun e => by
    subst e
    have hp := List.pairwise_iff_getElem.1 hn i (i + 1) (by omega) hi (Nat.lt_succ_self i)
    rw [List.getElem?_eq_getElem (by omega)] at hs
    rw [List.getElem?_eq_getElem hi] at ht
    exact hp (Option.some.inj (hs.trans ht.symm))
  simp only [Sort.ltStr, decide_eq_false_iff_not, decide_eq_true_eq, List.not_lt] at h1 ⊢
  by_cases h2 : s.data.toList < t.data.toList
  · exact h2
  · exact absurd (bytes_inj (List.le_antisymm h1 (List.not_lt.1 h2))) hne

set_option maxHeartbeats 3200000 in
theorem walk (a0 : Option Addr) (len0 cap0 : Nat) (s0 : List ByteArray) (w : World) (w0 : IsStrs w a0 len0 cap0 s0) :
    Calls Try.prog 3 #[.slice a0 len0 cap0] w fun e w' => e = .returned (.bool true) ∧ Below w.heap.size w w' := by
  go_enter Try.func3, Try.ntmps3
  go_wp2_with fail
  refine (bytes_any _ _ _ _ _ w0).mono ?_
  rintro e w' ⟨r, rfl, hr, rfl⟩
  cases r
  · go_wp2_with fail
    go_ret
    exact ⟨rfl, Below.refl _ _⟩
  obtain ⟨hl, hsh⟩ := hr rfl
  clear hr
  have Hsz : Hid (∀ s ∈ s0, s.size ≤ 1048576) := fun s hs => by
    obtain ⟨i, hi, e⟩ := List.getElem_of_mem hs
    exact hsh i s (by rw [← w0.len]; exact hi) (by rw [List.getElem?_eq_getElem hi, e])
  go_wp2_with fail
  all_goals try (go_ret; exact ⟨rfl, Below.refl _ _⟩)
  refine (sbytes_any _ _ _ _ _ w0 hl hsh).mono ?_
  rintro e w' ⟨n, rfl, hn0, hn1, rfl⟩
  clear hsh
  go_wp2_with fail
  all_goals try (go_ret; exact ⟨rfl, Below.refl _ _⟩)
  refine (newSet_any _ _ _ _ _ (strs_nil _) (by decide)).mono ?_
  rintro e w2 ⟨rfl, hset, hbm⟩
  go_wp2
  go_loopw [4] (fun i wr => ∃ k : Nat, k ≤ len0 ∧ i = .int .i64 k ∧ IsSet Try.prog 29 wr w.heap.size (addAll [] (s0.take k)) ∧ Below w.heap.size w wr) (fun i _ => len0 - (intOf i).toNat)
  case atStart => exact ⟨0, Nat.zero_le _, rfl, hset, hbm⟩
  case round =>
    obtain ⟨k, hk, rfl, hS, hB⟩ := hrel
    clear hset hbm
    by_cases hlt : k < len0
    · have hst' := w0.keep hB
      obtain ⟨b, off, s, rfl, hblt, hs, hsz, hcell⟩ := hst'.at_ hlt
      have Hstep := Lib.hid (addAll_take (acc := []) hs)
      have hlen : (addAll [] (s0.take k)).length ≤ k := by have := addAll_le (ss := s0.take k) (acc := []); simp at this; omega
      clear hs hst'
      go_wp2_with fail
      refine (add_any _ (addAll [] (s0.take k)) s _ hS hsz (by omega)).mono ?_
      rintro e w4 ⟨rfl, hS4, hg4⟩
      rw [← Hstep.out] at hS4
      have hB4 : Below w.heap.size w w4 := below_grown hB hg4 (Nat.le_refl _)
      clear hg4 hS hcell hB Hstep
      go_wp2
      exact ⟨⟨k + 1, by omega, by go_num, hS4, hB4⟩, by simp [intOf]; omega⟩
    obtain ⟨w3, rfl⟩ : ∃ w3, w3 = wr := ⟨_, rfl⟩
    obtain rfl : k = len0 := by omega
    have hall : s0.take k = s0 := List.take_of_length_le (by rw [w0.len]; exact Nat.le_refl _)
    rw [hall] at hS
    clear hall
    have hlenS : (addAll [] s0).length ≤ 1048576 := by have := addAll_le (ss := s0) (acc := []); have h2 := w0.len; simp at this; omega
    go_wp2_with fail
    refine (toOrdered_any _ _ _ hS hlenS).mono ?_
    rintro e w4 ⟨out, rfl, hp, hasc, hk4, hS4, hb4, hz⟩
    have hB4 := below_trans hB hb4
    have hlo : out.length = (addAll [] s0).length := hp.length_eq
    have hos := strs_of_blk hk4 hlo (by unfold maxLen; omega) (fun k s hs => hz s (List.mem_of_getElem? hs))
    have Hmem : Hid (∀ x, x ∈ out ↔ x ∈ s0) := fun x => by rw [hp.mem_iff, mem_addAll]; simp
    have Hstr : Hid (∀ (i : Nat) (s t : ByteArray), out[i]? = some s → out[i + 1]? = some t → Sort.ltStr s.data.toList t.data.toList = true) := fun i s t hs ht => asc_strict hasc (hp.nodup_iff.2 (addAll_nodup List.nodup_nil)) hs ht
    have hkeys := w0.keep hB4
    clear hS hB hb4 hk4 hasc hp hz hlo hS4
    go_wp2_with fail
    refine (distinct_any _ _ _ _ _ hkeys hl).mono ?_
    rintro e w5 ⟨rfl, q, hw5⟩
    have hb5 : Below w4.heap.size w4 w5 := by rw [hw5]; exact below_drewN (Below.refl _ _) q
    have hos5 := hos.keep hb5
    have hkeys5 := hkeys.keep hb5
    have hB5 := below_trans hB4 hb5
    clear hw5 hb5 hos hkeys hB4
    go_wp2
    go_loopw [6] (fun i wr => ∃ j m : Nat, j ≤ (addAll [] s0).length ∧ i = .int .i64 j ∧ wr = w5.drewN m) (fun i _ => (addAll [] s0).length - (intOf i).toNat)
    case atStart => exact ⟨0, 0, Nat.zero_le _, rfl, rfl⟩
    case round =>
      obtain ⟨j, m, hj, rfl, hwr⟩ := hrel
      have hos6 : IsStrs wr (some ⟨w3.heap.size, 0, none⟩) (addAll [] s0).length (addAll [] s0).length out := by rw [hwr]; exact hos5.drewN m
      have Hwr := Lib.hid hwr
      clear hwr
      by_cases hlj : j + 1 < (addAll [] s0).length
      · obtain ⟨b1, o1, x1, e1, hbl1, hs1, hz1, hc1⟩ := hos6.at_ (show j < (addAll [] s0).length by omega)
        obtain ⟨b2, o2, x2, e2, hbl2, hs2, hz2, hc2⟩ := hos6.at_ hlj
        injection e1 with e1; injection e1 with e1 e1'; subst e1 e1'
        injection e2 with e2; injection e2 with e2 e2'; subst e2 e2'
        rw [Nat.zero_add] at hc1 hc2
        have hd := Hstr.out j x1 x2 hs1 hs2
        have hx1 := Hsz.out x1 ((Hmem.out x1).1 (List.mem_of_getElem? hs1))
        have hx2 := Hsz.out x2 ((Hmem.out x2).1 (List.mem_of_getElem? hs2))
        have h1 : (j : Int) < ((addAll [] s0).length : Int) := by omega
        have h2 : (j : Int) + 1 < ((addAll [] s0).length : Int) := by omega
        have h3 : (0 : Int) ≤ (j : Int) := by omega
        have h4 : (0 : Int) ≤ (j : Int) + 1 := by omega
        have h5 : IntKind.i64.wrap ((j : Int) + 1) = (j : Int) + 1 := IntWalk.i64_in _ ⟨by omega, by omega⟩
        have h6 : ((j : Int) + 1).toNat = j + 1 := by omega
        clear hs1 hs2 hos6
        go_wp2_with fail
        go_quiet ((go_at_call 10; exact (less_any _ _ _ hx1 hx2).mono fun e w'' ⟨he, m2, hm2⟩ => ⟨he, _, hm2.trans (drewN_twice _ _ _)⟩))
        rw [hd]
        go_wp2
        exact ⟨⟨j + 1, _, by omega, by go_num, by rw [Hwr.out]; exact drewN_twice _ _ _⟩, by simp [intOf]; omega⟩
      obtain ⟨w6, rfl⟩ : ∃ w6, w6 = wr := ⟨_, rfl⟩
      have hb6 : Below w5.heap.size w5 w6 := by rw [Hwr.out]; exact below_drewN (Below.refl _ _) m
      have hkeys6 := hkeys5.keep hb6
      have hB6 := below_trans hB5 hb6
      clear Hwr hb6 hos5 hkeys5 hB5 Hstr
      go_wp2
      go_loop [7] (fun i => ∃ j : Nat, j ≤ (addAll [] s0).length ∧ i = .int .i64 j) (fun i => (addAll [] s0).length - (intOf i).toNat)
      case atStart => exact ⟨0, Nat.zero_le _, rfl⟩
      case round =>
        obtain ⟨j, hj, rfl⟩ := hrel
        by_cases hlj : j < (addAll [] s0).length
        · obtain ⟨b1, o1, x1, e1, hbl1, hs1, hz1, hc1⟩ := hos6.at_ hlj
          injection e1 with e1; injection e1 with e1 e1'; subst e1 e1'
          rw [Nat.zero_add] at hc1
          have hin : decide (x1 ∈ s0) = true := by simp [(Hmem.out x1).1 (List.mem_of_getElem? hs1)]
          clear hs1
          go_wp2_with fail
          refine (in_any _ _ _ _ _ _ hkeys6).mono ?_
          rintro e w7 ⟨he, rfl⟩
          rw [hin] at he
          subst he
          go_wp2
          exact ⟨⟨j + 1, by omega, by go_num⟩, by simp [intOf]; omega⟩
        go_wp2
        go_loopw [8] (fun i wr => ∃ i' m : Nat, i' ≤ k ∧ i = .int .i64 i' ∧ wr = w6.drewN m) (fun i _ => k - (intOf i).toNat)
        case atStart => exact ⟨0, 0, Nat.zero_le _, rfl, rfl⟩
        case round =>
          obtain ⟨i', m', hi', rfl, hwr'⟩ := hrel
          have hos7 : IsStrs wr (some ⟨w3.heap.size, 0, none⟩) (addAll [] s0).length (addAll [] s0).length out := by rw [hwr']; exact hos6.drewN m'
          have hkeys7 : IsStrs wr a0 k cap0 s0 := by rw [hwr']; exact hkeys6.drewN m'
          have Hwr' := Lib.hid hwr'
          clear hwr'
          by_cases hli : i' < k
          · obtain ⟨b, off, x, rfl, hblt, hs, hsz, hcell⟩ := hkeys7.at_ hli
            have Hin := Lib.hid ((Hmem.out x).2 (List.mem_of_getElem? hs))
            have hliI : (i' : Int) < (k : Int) := by omega
            have hi0 : (0 : Int) ≤ (i' : Int) := by omega
            have hdi : decide ((i' : Int) < (k : Int)) = true := decide_eq_true hliI
            clear hs
            obtain ⟨w7, rfl⟩ : ∃ w7, w7 = wr := ⟨_, rfl⟩
            go_wp2
            go_loopw [9, 10] (fun v t w8 => ∃ j m : Nat, j ≤ (addAll [] s0).length ∧ t = .int .i64 j ∧ v = .bool false ∧ w8 = w7.drewN m ∧ Hid (x ∉ out.take j)) (fun _ t _ => (addAll [] s0).length - (intOf t).toNat)
            case atStart => exact ⟨0, 0, Nat.zero_le _, rfl, rfl, rfl, by simp [Hid]⟩
            case round =>
              obtain ⟨j, m2, hj2, rfl, rfl, hw8, hno⟩ := hrel
              have hos8 : IsStrs wr (some ⟨w3.heap.size, 0, none⟩) (addAll [] s0).length (addAll [] s0).length out := by rw [hw8]; exact hos7.drewN m2
              have hcell8 : wr.cell? ⟨b, off + i', none⟩ = some (.string x) := by rw [hw8]; exact hcell
              have Hw8 := Lib.hid hw8
              clear hw8
              by_cases hlj2 : j < (addAll [] s0).length
              · obtain ⟨b1, o1, y, e1, hbl1, hs1, hz1, hc1⟩ := hos8.at_ hlj2
                injection e1 with e1; injection e1 with e1 e1'; subst e1 e1'
                rw [Nat.zero_add] at hc1
                have hjI : (j : Int) < ((addAll [] s0).length : Int) := by omega
                have hj0 : (0 : Int) ≤ (j : Int) := by omega
                by_cases hyx : y = x
                · obtain rfl : x = y := hyx.symm
                  have hq : (x.toList == x.toList) = true := by simp
                  clear hs1 hno hos8
                  go_wp2_with fail
                  go_quiet (fail)
                  go_wp2
                  exact ⟨⟨i' + 1, m' + (m2 + nq), by omega, by go_num, by rw [Hw8.out, Hwr'.out, drewN_twice, drewN_twice]⟩, by simp [intOf]; omega⟩
                · have hq : (y.toList == x.toList) = false := by rw [bytes_eq_iff]; simp [hyx]
                  have hnx := Lib.hid (take_miss hs1 hno.out hyx)
                  clear hs1 hno hos8 hyx
                  go_wp2_with fail
                  go_quiet (fail)
                  go_wp2
                  exact ⟨⟨j + 1, _, by omega, by go_num, rfl, by rw [Hw8.out]; exact drewN_twice _ _ _, hnx.out⟩, by simp [intOf]; omega⟩
              · exact absurd Hin.out (by
                  have h9 := hno.out
                  rw [List.take_of_length_le (by rw [hos8.len]; omega)] at h9
                  exact h9)
          · go_wp2
            go_ret
            refine ⟨rfl, ?_⟩
            rw [Hwr'.out]
            exact below_drewN hB6 _
end Go.Proofs.Ytekjhcfnaaihmaa.fnOrderedSliceSortedAndComplete
