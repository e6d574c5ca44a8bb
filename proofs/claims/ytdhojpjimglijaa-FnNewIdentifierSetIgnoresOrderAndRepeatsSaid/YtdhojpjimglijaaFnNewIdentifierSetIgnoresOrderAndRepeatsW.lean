/- The walk of FnNewIdentifierSetIgnoresOrderAndRepeats. -/
import Derived.Test.YtdhojpjimglijaaFnNewIdentifierSetIgnoresOrderAndRepeatsB
import Derived.Test.YtdhojpjimglijaaC167Bytes
import Derived.Test.YtdhojpjimglijaaC167Copy
import Derived.Test.YtdhojpjimglijaaC167Idents
import Derived.Test.YtdhojpjimglijaaC167SameIds
import Derived.Test.YtdhojpjimglijaaC167Dedup
import Derived.Test.YtdhojpjimglijaaCSetNew
import Derived.Test.YtdhojpjimglijaaCSetContains
import Derived.Test.YtdhojpjimglijaaCSetOrdered
import Derived.Test.YtdhojpjimglijaaSetMore
namespace Go.Proofs.Ytdhojpjimglijaa.fnNewIdentifierSetIgnoresOrderAndRepeats
open Go.ChangeShapes Go.WideShapes Go.ChangeAt Go.RowKit Go.Maps
set_option linter.unusedVariables false

theorem rev_step {l : List ByteArray} {k : Nat} {s : ByteArray} (h : l[k]? = some s) : (l.drop (k + 1)).reverse ++ [s] = (l.drop k).reverse := by
  rw [drop_cons' h]
  simp

set_option maxHeartbeats 3200000 in
theorem walk (a0 : Option Addr) (len0 cap0 : Nat) (s0 : List ByteArray) (w : World) (w0 : IsStrs w a0 len0 cap0 s0) :
    Calls Try.prog 5 #[.slice a0 len0 cap0] w fun e w' => e = .returned (.bool true) ∧ Below w.heap.size w w' := by
  go_enter Try.func5, Try.ntmps5
  go_wp2_with fail
  refine (bytes_any _ _ _ _ _ w0).mono ?_
  rintro e w' ⟨r, rfl, hr, rfl⟩
  cases r
  · go_wp2_with fail
    go_ret
    exact ⟨rfl, Below.refl _ _⟩
  obtain ⟨hl, hsh⟩ := hr rfl
  clear hr hsh
  go_wp2_with fail
  all_goals try (go_ret; exact ⟨rfl, Below.refl _ _⟩)
  refine (sbytes_any _ _ _ _ _ w0).mono ?_
  rintro e w' ⟨n, rfl, hn0, hn1, rfl⟩
  go_wp2_with fail
  all_goals try (go_ret; exact ⟨rfl, Below.refl _ _⟩)
  refine (clone_any _ _ _ s0 _ w0 hl).mono ?_
  intro e w2 hcp
  obtain ⟨x, c, rfl, _, hb2, hst, _⟩ := hcp.u w0 hl
  have Hl := Lib.hid w0.len
  clear hcp w0
  go_wp2_with fail
  refine (idents_any _ _ _ s0 _ hst hl).mono ?_
  rintro e w3 ⟨rfl, hb3, hk3⟩
  have ids := strs_of_blk hk3 Hl.out (by unfold maxLen; omega) hst.sizes
  have hst3 := hst.keep hb3
  have hB3 := below_trans hb2 hb3
  have hlt3 := hk3.lt
  have Hsz : Hid (∀ s ∈ s0, s.size ≤ maxLen) := sizes_of_strs hst
  clear hst hb2 hb3
  have hmk := make_strs0 (P := Try.prog) Try.underlying30 (e := 35) (by kernel_rfl) (2 * len0) (by omega)
  rw [Int.natCast_mul] at hmk
  have hmk2 : ∀ W : World, (Instr.makeSlice 30 (.int .i64 0) (.int .i64 (2 * (len0 : Int)))).run Try.prog W = .ok (.slice (some ⟨W.heap.size, 0, none⟩) 0 (2 * len0)) (W.alloc (.cells (emptyA (2 * len0)) 35)) := hmk
  clear hmk
  go_wp2_with fail
  go_loopw [4, 5] (fun v i wr => ∃ k : Nat, k ≤ len0 ∧ i = .int .i64 ((k : Int) - 1) ∧ v = .slice (some ⟨w3.heap.size, 0, none⟩) (len0 - k) (2 * len0) ∧ Blk wr w3.heap.size 35 (fillO (s0.drop k).reverse (2 * len0)) ∧ Below w3.heap.size w3 wr) (fun _ i _ => (intOf i + 1).toNat)
  case atStart => exact ⟨len0, Nat.le_refl _, rfl, by rw [Nat.sub_self], by rw [List.drop_of_length_le (by rw [Hl.out]; exact Nat.le_refl _), List.reverse_nil, fillO_zero]; exact Blk.new _ _ _, below_alloc (Below.refl _ _) _⟩
  case round =>
    obtain ⟨k, hk, rfl, rfl, hB, hW⟩ := hrel
    clear hmk2
    have hol : len0 - k = (s0.drop k).reverse.length := by simp [Hl.out]
    have Hol := Lib.hid hol
    clear hol
    by_cases hk0 : 0 < k
    · obtain ⟨p, rfl⟩ : ∃ p, k = p + 1 := ⟨k - 1, by omega⟩
      obtain ⟨s, hs, hc⟩ := blk_at (hk3.below hW hlt3) Hl.out (show p < len0 by omega)
      have Hst := Lib.hid (rev_step hs)
      clear hs hk0
      have h1 : ((p + 1 : Nat) : Int) - 1 = (p : Int) := by omega
      rw [h1]
      clear h1
      go_wp2_with (at_builtin; refine wpList_append_str rfl _ _ 30 rfl 35 Try.underlying30 (by kernel_rfl) w3.heap.size (2 * len0) (s0.drop (p + 1)).reverse s _ _ _ Hol.out rfl (hB.alloc _) rfl (new_cell _ _ _) (by rw [← Hol.out]; omega) ?_; intro w5 hB5 hW5)
      have hb5 : Below w3.heap.size w3 w5 := below_wrote (below_alloc hW _) hW5 (Nat.le_refl _)
      rw [Hst.out] at hB5
      clear hB hW hW5 hc Hst
      go_wp2_with fail
      exact ⟨⟨p, by omega, rfl, by congr 1; omega, hB5, hb5⟩, by simp [intOf]⟩
    · obtain rfl : k = 0 := by omega
      have h1 : ((0 : Nat) : Int) - 1 = -1 := by omega
      rw [h1, Nat.sub_zero]
      rw [List.drop_zero] at hB
      have Hol2 : Hid (len0 = s0.reverse.length) := by simp [Hid, Hl.out]
      clear h1 Hol hk0
      have ids4 := ids.keep hW
      go_wp2_with (at_builtin; refine wpList_append_strs rfl _ _ 30 rfl 35 Try.underlying30 (by kernel_rfl) w3.heap.size (2 * len0) s0.reverse s0 _ _ _ _ Hol2.out rfl hB rfl ids4 (by omega) ?_; intro w6 hB6 hW6)
      have hb6 : Below w3.heap.size w3 w6 := below_wrote hW hW6 (Nat.le_refl _)
      have hst6 := hst3.keep hb6
      have ids6 := ids.keep hb6
      have hB66 := below_trans hB3 hb6
      have HlS : Hid ((s0.reverse ++ s0).length = len0 + len0) := by simp [Hid, Hl.out]
      have htw : IsStrs w6 (some ⟨w3.heap.size, 0, none⟩) (len0 + len0) (2 * len0) (s0.reverse ++ s0) := by
        have := strs_of_fillO hB6 (by unfold maxLen; omega) (by rw [HlS.out]; omega) (fun k s hs => ?_)
        · rw [HlS.out] at this
          exact this
        · refine Hsz.out s ?_
          rcases List.mem_append.1 (List.mem_of_getElem? hs) with h | h
          · exact List.mem_reverse.1 h
          · exact h
      clear hst3 ids ids4 hB3 hb6 hB6 hW6 hB hW hk3
      refine (newSet_any _ _ _ s0 _ ids6 hl).mono ?_
      rintro e w7 ⟨rfl, hS1, hb7⟩
      have hst7 := hst6.keep hb7
      have htw7 := htw.keep hb7
      have hB7 := below_trans hB66 hb7
      have hz7 := hS1.lt
      clear hst6 htw ids6 hB66 hb7
      go_wp2_with fail
      refine (newSet_any _ _ _ (s0.reverse ++ s0) _ htw7 (by omega)).mono ?_
      rintro e w8 ⟨rfl, hS2, hb8⟩
      have hst8 := hst7.keep hb8
      have hS18 := hS1.below hb8
      have hB8 := below_trans hB7 hb8
      have hlen1 := addAll_small Hl.out hl
      have Heq : Hid ((addAll [] (s0.reverse ++ s0)).length = (addAll [] s0).length) := addAll_len_same fun x => by simp
      have hlen2 : (addAll [] (s0.reverse ++ s0)).length ≤ 1048576 := by rw [Heq.out]; exact hlen1
      have hdec : (((addAll [] s0).length : Int) != ((addAll [] (s0.reverse ++ s0)).length : Int)) = false := by rw [Heq.out]; simp
      clear hst7 hS1 hB7 hb8 htw7
      go_wp2_with (first | (at_len; refine wpList_len_set rfl (.tmp 47) 27 rfl 35 41 Try.underlying27 _ _ rfl hS18 ?_) | (at_len; refine wpList_len_set rfl (.tmp 49) 27 rfl 35 41 Try.underlying27 _ _ rfl hS2 ?_))
      clear hdec
      refine (toOrdered_any _ _ _ hS18 hlen1).mono ?_
      rintro e w9 ⟨o1, rfl, hp1, hasc1, hk9, _, hb9, hzs1⟩
      have hlo : o1.length = (addAll [] s0).length := hp1.length_eq
      have ho1 := strs_of_blk hk9 hlo (by unfold maxLen; omega) (fun k s hs => hzs1 s (List.mem_of_getElem? hs))
      have hS29 := hS2.below hb9
      have hst9 := hst8.keep hb9
      have hB9 := below_trans hB8 hb9
      have Hp1 := Lib.hid hp1
      have Hasc1 := Lib.hid hasc1
      clear hp1 hasc1 hS18 hS2 hst8 hB8 hb9 hzs1 hk9 hlo
      go_wp2_with fail
      refine (toOrdered_any _ _ _ hS29 hlen2).mono ?_
      rintro e w10 ⟨o2, he, hp2, hasc2, hk10, _, hb10, hzs2⟩
      rw [Heq.out] at he
      subst he
      have hlo2 : o2.length = (addAll [] s0).length := hp2.length_eq.trans Heq.out
      obtain rfl : o2 = o1 := asc_same hasc2 Hasc1.out (hp2.nodup_iff.2 (addAll_nodup List.nodup_nil)) (Hp1.out.nodup_iff.2 (addAll_nodup List.nodup_nil)) fun x => by rw [hp2.mem_iff, Hp1.out.mem_iff, mem_addAll, mem_addAll]; simp
      have ho2 := strs_of_blk hk10 hlo2 (by unfold maxLen; omega) (fun k s hs => hzs2 s (List.mem_of_getElem? hs))
      have ho110 := ho1.keep hb10
      have hst10 := hst9.keep hb10
      have hB10 := below_trans hB9 hb10
      clear hS29 ho1 hst9 hB9 hb10 hp2 hasc2 hzs2 hk10 hlo2 Hp1 Hasc1
      go_wp2_with fail
      refine (sameIds_yes _ _ _ _ _ o2 _ ho110 ho2).mono ?_
      rintro e w11 ⟨rfl, m, hw11⟩
      have hb11 : Below w10.heap.size w10 w11 := by rw [hw11]; exact below_drewN (Below.refl _ _) m
      have hst11 := hst10.keep hb11
      have hB11 := below_trans hB10 hb11
      clear ho110 ho2 hst10 hB10 hb11 hw11
      go_wp2_with fail
      refine (newSet_any _ _ _ [] _ (strs_nil _) (by decide)).mono ?_
      rintro e w12 ⟨rfl, hS, hb12⟩
      rw [addAll_nil] at hS
      have hst12 := hst11.keep hb12
      have hB12 := below_trans hB11 hb12
      clear hst11 hB11 hb12
      by_cases hpos : 0 < len0
      · obtain ⟨b, off, s, rfl, hblt, hs, hsz, hcell⟩ := hst12.at_ hpos
        rw [Nat.add_zero] at hcell
        have hposI : (0 : Int) < (len0 : Int) := by omega
        have hd1 : decide (0 < len0) = true := decide_eq_true hpos
        have hd2 : decide ((0 : Int) < (len0 : Int)) = true := decide_eq_true hposI
        clear hs
        go_wp2_with (at_len; refine wpList_len_set rfl _ 27 rfl 35 41 Try.underlying27 _ _ rfl hS ?_)
        refine (contains_any _ _ s _ hS hsz).mono ?_
        rintro e w13 ⟨he, hb13⟩
        have hdd : decide (s ∈ ([] : List ByteArray)) = false := by simp
        rw [hdd] at he
        subst he
        go_wp2_with fail
        go_ret
        exact ⟨rfl, below_trans hB12 hb13⟩
      · have hd1 : decide (0 < len0) = false := decide_eq_false hpos
        have hd2 : decide ((0 : Int) < (len0 : Int)) = false := decide_eq_false (by omega)
        go_wp2_with (at_len; refine wpList_len_set rfl _ 27 rfl 35 41 Try.underlying27 _ _ rfl hS ?_)
        go_ret
        exact ⟨rfl, hB12⟩
end Go.Proofs.Ytdhojpjimglijaa.fnNewIdentifierSetIgnoresOrderAndRepeats
