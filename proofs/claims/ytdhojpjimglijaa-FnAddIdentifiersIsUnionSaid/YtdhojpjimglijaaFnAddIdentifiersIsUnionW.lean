/- The walk of FnAddIdentifiersIsUnion. -/
import Derived.Test.YtdhojpjimglijaaFnAddIdentifiersIsUnionB
import Derived.Test.YtdhojpjimglijaaC167Bytes
import Derived.Test.YtdhojpjimglijaaC167Copy
import Derived.Test.YtdhojpjimglijaaC167Idents
import Derived.Test.YtdhojpjimglijaaC167Has
import Derived.Test.YtdhojpjimglijaaC167SameStr
import Derived.Test.YtdhojpjimglijaaC167Dedup
import Derived.Test.YtdhojpjimglijaaCSetNew
import Derived.Test.YtdhojpjimglijaaCSetAddIds
import Derived.Test.YtdhojpjimglijaaCSetContains
import Derived.Test.YtdhojpjimglijaaCSetOrdered
import Derived.Test.YtdhojpjimglijaaSetMore
namespace Go.Proofs.Ytdhojpjimglijaa.fnAddIdentifiersIsUnion
open Go.ChangeShapes Go.WideShapes Go.ChangeAt Go.RowKit Go.Maps
set_option linter.unusedVariables false

set_option maxHeartbeats 3200000 in
theorem walk (a0 : Option Addr) (len0 cap0 : Nat) (s0 : List ByteArray) (a1 : Option Addr) (len1 cap1 : Nat) (s1 : List ByteArray) (a2 : ByteArray) (w : World) (w0 : IsStrs w a0 len0 cap0 s0) (w1 : IsStrs w a1 len1 cap1 s1) (w2 : a2.size ≤ maxLen) :
    Calls Try.prog 4 #[.slice a0 len0 cap0, .slice a1 len1 cap1, .string a2] w fun e w' => e = .returned (.bool true) ∧ Below w.heap.size w w' := by
  go_enter Try.func4, Try.ntmps4
  go_wp2_with fail
  refine (bytes_any _ _ _ _ _ _ _ _ _ _ w0 w1 w2).mono ?_
  rintro e w' ⟨r, rfl, hr, rfl⟩
  cases r
  · go_wp2_with fail
    go_ret
    exact ⟨rfl, Below.refl _ _⟩
  obtain ⟨hl, hsh, hl1, hsh1, hq⟩ := hr rfl
  have ha2 := w2
  clear hr hsh hsh1
  go_wp2_with fail
  all_goals try (go_ret; exact ⟨rfl, Below.refl _ _⟩)
  refine (sbytes_any _ _ _ _ _ w0).mono ?_
  rintro e w' ⟨n, rfl, hn0, hn1, rfl⟩
  go_wp2_with fail
  refine (sbytes_any _ _ _ _ _ w1).mono ?_
  rintro e w' ⟨n', rfl, hn0', hn1', rfl⟩
  go_wp2_with fail
  all_goals try (go_ret; exact ⟨rfl, Below.refl _ _⟩)
  refine (clone_any _ _ _ s0 _ w0 hl).mono ?_
  intro e w2 hcp
  obtain ⟨x, c, rfl, _, hb2, hst, _⟩ := hcp.u w0 hl
  have Hl := Lib.hid w0.len
  have hw1 := w1.keep hb2
  clear hcp w0 w1
  go_wp2_with fail
  refine (clone_any _ _ _ s1 _ hw1 hl1).mono ?_
  intro e w3 hcp
  obtain ⟨y, d, rfl, _, hb3, hst1, _⟩ := hcp.u hw1 hl1
  have Hl1 := Lib.hid hw1.len
  have hst3 := hst.keep hb3
  have hB3 := below_trans hb2 hb3
  clear hcp hw1 hst hb2 hb3
  go_wp2_with fail
  refine (idents_any _ _ _ s0 _ hst3 hl).mono ?_
  rintro e w4 ⟨rfl, hb4, hk4⟩
  have hids := strs_of_blk hk4 Hl.out (by unfold maxLen; omega) hst3.sizes
  have hst4 := hst3.keep hb4
  have hst14 := hst1.keep hb4
  have hB4 := below_trans hB3 hb4
  clear hst1 hst3 hB3 hb4 hk4
  go_wp2_with fail
  refine (newSet_any _ _ _ s0 _ hids hl).mono ?_
  rintro e w5 ⟨rfl, hS, hb5⟩
  have hst15 := hst14.keep hb5
  have hlenS := addAll_small Hl.out hl
  have hlt5 := hS.lt
  clear hids
  go_wp2_with fail
  refine (idents_any _ _ _ s1 _ hst15 hl1).mono ?_
  rintro e w6 ⟨rfl, hb6, hk6⟩
  have hids := strs_of_blk hk6 Hl1.out (by unfold maxLen; omega) hst15.sizes
  have hS6 := hS.below hb6
  have hb46 := below_trans hb5 hb6
  clear hS hst15 hb5 hb6 hk6
  go_wp2_with fail
  refine (addIds_any _ _ _ _ _ s1 _ hS6 hids hl1 hlenS (fun b' off e => by injection e with e; injection e with e; omega)).mono ?_
  rintro e w7 ⟨rfl, hS7, hg7⟩
  have hb47 := below_grown hb46 hg7 (Nat.le_refl _)
  have hst7 := hst4.keep hb47
  have hst17 := hst14.keep hb47
  have hB7 := below_trans hB4 hb47
  clear hst4 hst14 hb46 hb47 hB4 hg7 hS6 hids
  have hmk := make_strs0 (P := Try.prog) Try.underlying22 (e := 9) (by kernel_rfl) (len0 + len1) (by omega)
  rw [Int.natCast_add] at hmk
  rw [← addAll_append] at hS7
  have hlS : (s0 ++ s1).length = len0 + len1 := by rw [List.length_append, Hl.out, Hl1.out]
  have hlen2 := addAll_small hlS (show len0 + len1 ≤ 1048576 by omega)
  have HlS := Lib.hid hlS
  clear hlS hlenS
  have hk8 := Blk.new w7 9 (emptyA (len0 + len1))
  rw [← fillO_zero] at hk8
  have hst8 := hst7.keep (below_alloc (Below.refl _ _) (.cells (emptyA (len0 + len1)) 9))
  have hlt7 := hS7.lt
  have hol0 : len0 = ([] ++ s0 : List ByteArray).length := by simpa using Hl.out.symm
  have Hol0 := Lib.hid hol0
  clear hol0
  go_wp2_with (first | (at_builtin; refine wpList_append_strs rfl (.tmp 54) (.tmp 55) 22 rfl 9 Try.underlying22 (by kernel_rfl) w7.heap.size (len0 + len1) [] s0 _ _ _ 0 rfl rfl hk8 rfl hst8 (by omega) ?_; intro w8 hk8' hW8; have hb78 : Below w7.heap.size w7 w8 := below_wrote (below_alloc (Below.refl _ _) _) hW8 (Nat.le_refl _); have hst19 := hst17.keep hb78) | (at_builtin; refine wpList_append_strs rfl (.tmp 57) (.tmp 58) 22 rfl 9 Try.underlying22 (by kernel_rfl) w7.heap.size (len0 + len1) ([] ++ s0) s1 _ _ _ len0 Hol0.out rfl hk8' rfl hst19 (by omega) ?_; intro w9 hk9 hW9))
  have hb79 : Below w7.heap.size w7 w9 := below_wrote hb78 hW9 (Nat.le_refl _)
  rw [List.nil_append] at hk9
  have hst9 := hst7.keep hb79
  have hst19 := hst17.keep hb79
  have hS9 := hS7.below hb79
  have hB9 := below_trans hB7 hb79
  have hall : IsStrs w9 (some ⟨w7.heap.size, 0, none⟩) (len0 + len1) (len0 + len1) (s0 ++ s1) := by
    have := strs_of_fillO hk9 (by unfold maxLen; omega) (by rw [HlS.out]; exact Nat.le_refl _) (fun k s hs => ?_)
    · rw [HlS.out] at this
      exact this
    · rcases List.mem_append.1 (List.mem_of_getElem? hs) with h | h
      · exact sizes_of_strs hst9 s h
      · exact sizes_of_strs hst19 s h
  clear hk8 hst8 hst7 hst17 hk8' hW8 hW9 hb78 hb79 hk9 hmk hS7 hB7
  refine (dedup_any _ _ _ (s0 ++ s1) _ hall (by omega)).mono ?_
  rintro e w10 ⟨g, out, he, hasc, hnd, hmem, hos, hb10⟩
  have hlo : out.length = (addAll [] (s0 ++ s1)).length := len_of_nodup hnd (addAll_nodup List.nodup_nil) fun x => by rw [hmem, mem_addAll]; simp
  rw [hlo] at he hos
  subst he
  have hS5 := hS9.below hb10
  have hst5 := hst9.keep hb10
  have hst15 := hst19.keep hb10
  have hB5 := below_trans hB9 hb10
  have Hasc := Lib.hid hasc
  have Hnd := Lib.hid hnd
  have Hmem : Hid (∀ x, x ∈ out ↔ x ∈ s0 ++ s1) := hmem
  clear hS9 hst9 hst19 hB9 hb10 hasc hnd hmem hlo hall
  go_wp2_with (at_len; refine wpList_len_set rfl _ 27 rfl 35 41 Try.underlying27 _ _ rfl hS5 ?_)
  refine (toOrdered_any _ _ _ hS5 (by omega)).mono ?_
  rintro e w6 ⟨out2, rfl, hp, hasc2, hk6, hS6, hb6, hz⟩
  have hlo : out2.length = (addAll [] (s0 ++ s1)).length := hp.length_eq
  obtain rfl : out2 = out := asc_same hasc2 Hasc.out (hp.nodup_iff.2 (addAll_nodup List.nodup_nil)) Hnd.out fun x => by rw [hp.mem_iff, Hmem.out, mem_addAll]; simp
  have hos6 := hos.keep hb6
  have hst6 := hst5.keep hb6
  have hst16 := hst15.keep hb6
  have hB6 := below_trans hB5 hb6
  have hos2 := strs_of_blk hk6 hlo (by unfold maxLen; omega) (fun k s hs => hz s (List.mem_of_getElem? hs))
  clear hS5 hos hst5 hst15 hB5 hb6 hasc2 hp hz hlo hk6 Hasc Hnd
  go_wp2_with fail
  refine (sameStr_yes _ _ _ _ _ out2 _ hos2 hos6).mono ?_
  rintro e w7' ⟨rfl, m, hw7⟩
  have hb7 : Below w6.heap.size w6 w7' := by rw [hw7]; exact below_drewN (Below.refl _ _) m
  have hS7 := hS6.below hb7
  have hst7 := hst6.keep hb7
  have hst17 := hst16.keep hb7
  have hB7 := below_trans hB6 hb7
  clear hw7 hos2 hos6 hS6 hst6 hst16 hB6 hb7
  go_wp2_with fail
  refine (contains_any _ _ a2 _ hS7 ha2).mono ?_
  rintro e w8' ⟨he, hb8⟩
  have hdd : decide (a2 ∈ addAll [] (s0 ++ s1)) = (decide (a2 ∈ s0) || decide (a2 ∈ s1)) := by
    rw [← Bool.decide_or]
    exact decide_eq_decide.2 (by rw [mem_addAll]; simp)
  rw [hdd] at he
  subst he
  clear hdd
  have hst8 := hst7.keep hb8
  have hst18 := hst17.keep hb8
  go_wp2_with fail
  refine (has_any _ _ _ _ s0 _ hst8).mono ?_
  rintro e w9' ⟨rfl, rfl⟩
  cases hd0 : decide (a2 ∈ s0)
  · go_wp2_with fail
    refine (has_any _ _ _ _ s1 _ hst18).mono ?_
    rintro e w9' ⟨rfl, rfl⟩
    go_wp2_with fail
    go_ret
    exact ⟨rfl, below_trans hB7 hb8⟩
  · go_wp2_with fail
    go_ret
    exact ⟨rfl, below_trans hB7 hb8⟩
end Go.Proofs.Ytdhojpjimglijaa.fnAddIdentifiersIsUnion
