/- The walk of FnAddIdentifiersCommutesAndIsIdempotent. -/
import Derived.Test.YtdhojpjimglijaaFnAddIdentifiersCommutesAndIsIdempotentB
import Derived.Test.YtdhojpjimglijaaC167Bytes
import Derived.Test.YtdhojpjimglijaaC167Copy
import Derived.Test.YtdhojpjimglijaaC167Idents
import Derived.Test.YtdhojpjimglijaaC167SameIds
import Derived.Test.YtdhojpjimglijaaCSetNew
import Derived.Test.YtdhojpjimglijaaCSetAddIds
import Derived.Test.YtdhojpjimglijaaCSetOrdered
import Derived.Test.YtdhojpjimglijaaSetMore
namespace Go.Proofs.Ytdhojpjimglijaa.fnAddIdentifiersCommutesAndIsIdempotent
open Go.ChangeShapes Go.WideShapes Go.ChangeAt Go.RowKit Go.Maps
set_option linter.unusedVariables false

theorem addAll_has {acc s : List ByteArray} (h : ∀ x ∈ s, x ∈ acc) : addAll acc s = acc := by
  induction s with
  | nil => rfl
  | cons a r ih =>
    show addAll (addS acc a) r = acc
    rw [addS, if_pos (h a (by simp))]
    exact ih fun x hx => h x (by simp [hx])

set_option maxHeartbeats 3200000 in
theorem walk (a0 : Option Addr) (len0 cap0 : Nat) (s0 : List ByteArray) (a1 : Option Addr) (len1 cap1 : Nat) (s1 : List ByteArray) (w : World) (w0 : IsStrs w a0 len0 cap0 s0) (w1 : IsStrs w a1 len1 cap1 s1) :
    Calls Try.prog 6 #[.slice a0 len0 cap0, .slice a1 len1 cap1] w fun e w' => e = .returned (.bool true) ∧ Below w.heap.size w w' := by
  go_enter Try.func6, Try.ntmps6
  go_wp2_with fail
  refine (bytes_any _ _ _ _ _ _ _ _ _ w0 w1).mono ?_
  rintro e w' ⟨r, rfl, hr, rfl⟩
  cases r
  · go_wp2_with fail
    go_ret
    exact ⟨rfl, Below.refl _ _⟩
  obtain ⟨hl, hsh, hl1, hsh1⟩ := hr rfl
  clear hr hsh hsh1
  go_wp2_with fail
  all_goals try (go_ret; exact ⟨rfl, Below.refl _ _⟩)
  refine (sbytes_any _ _ _ _ _ w0).mono ?_
  rintro e w' ⟨n, rfl, hn0, hn1, rfl⟩
  go_wp2_with fail
  refine (sbytes_any _ _ _ _ _ w1).mono ?_
  rintro e w' ⟨n', rfl, hn0', hn1', rfl⟩
  go_wp2_with fail
  all_goals try (go_ret; exact ⟨rfl, Below.refl _ _⟩)
  refine (clone_any _ _ _ s0 _ w0 hl).mono ?_
  intro e w2 hcp
  obtain ⟨x, c, rfl, _, hb2, hst, _⟩ := hcp.u w0 hl
  have Hl := Lib.hid w0.len
  have hw1 := w1.keep hb2
  clear hcp w0 w1
  go_wp2_with fail
  refine (clone_any _ _ _ s1 _ hw1 hl1).mono ?_
  intro e w3 hcp
  obtain ⟨y, d, rfl, _, hb3, hst1, _⟩ := hcp.u hw1 hl1
  have Hl1 := Lib.hid hw1.len
  have hst3 := hst.keep hb3
  have hB3 := below_trans hb2 hb3
  clear hcp hw1 hst hb2 hb3
  go_wp2_with fail
  refine (idents_any _ _ _ s0 _ hst3 hl).mono ?_
  rintro e w4 ⟨rfl, hb4, hk4⟩
  have ia4 := strs_of_blk hk4 Hl.out (by unfold maxLen; omega) hst3.sizes
  have hst14 := hst1.keep hb4
  have hB4 := below_trans hB3 hb4
  have hz3 := hk4.lt
  clear hst1 hst3 hB3 hb4 hk4
  go_wp2_with fail
  refine (idents_any _ _ _ s1 _ hst14 hl1).mono ?_
  rintro e w5 ⟨rfl, hb5, hk5⟩
  have ib5 := strs_of_blk hk5 Hl1.out (by unfold maxLen; omega) hst14.sizes
  have ia5 := ia4.keep hb5
  have hB5 := below_trans hB4 hb5
  have hz4 := hk5.lt
  clear hst14 ia4 hB4 hb5 hk5
  go_wp2_with fail
  refine (newSet_any _ _ _ s0 _ ia5 hl).mono ?_
  rintro e w6 ⟨rfl, hSa, hb6⟩
  have ia6 := ia5.keep hb6
  have hlt6 := hSa.lt
  have hlenA := addAll_small Hl.out hl
  have hlenB := addAll_small Hl1.out hl1
  go_wp2_with (at_len; refine wpList_len_set rfl _ 27 rfl 35 41 Try.underlying27 _ _ rfl hSa ?_)
  refine (newSet_any _ _ _ s0 _ ia6 hl).mono ?_
  rintro e w7 ⟨rfl, hS1, hb7⟩
  have ib6 := ib5.keep hb6
  have ib7 := ib6.keep hb7
  have hlt7 := hS1.lt
  clear hSa
  go_wp2_with fail
  refine (addIds_any _ _ _ _ _ s1 _ hS1 ib7 hl1 hlenA (fun b' off e => by injection e with e; injection e with e; omega)).mono ?_
  rintro e w8 ⟨rfl, hS1', hg8⟩
  have hb68 := below_grown hb7 hg8 (Nat.le_refl _)
  have ia8 := ia6.keep hb68
  have ib8 := ib6.keep hb68
  have hz8 := hS1'.lt
  rw [← addAll_append] at hS1'
  have hB8 := below_trans (below_trans hB5 hb6) hb68
  have hzw := (below_trans hB5 hb6).size
  clear ia5 ib5 ia6 ib6 ib7 hB5 hb6 hb7 hb68 hg8 hS1
  go_wp2_with fail
  refine (newSet_any _ _ _ s1 _ ib8 hl1).mono ?_
  rintro e w9 ⟨rfl, hS2, hb9⟩
  have ia9 := ia8.keep hb9
  have hlt9 := hS2.lt
  go_wp2_with fail
  refine (addIds_any _ _ _ _ _ s0 _ hS2 ia9 hl hlenB (fun b' off e => by injection e with e; injection e with e; omega)).mono ?_
  rintro e w10 ⟨rfl, hS2', hg10⟩
  rw [← addAll_append] at hS2'
  have hb810 := below_grown hb9 hg10 (Nat.le_refl _)
  have ia10 := ia8.keep hb810
  have ib10 := ib8.keep hb810
  have hS110 := hS1'.below hb810
  have hB10 := below_trans hB8 hb810
  have hz10 := hb810.size
  clear ia8 ib8 ia9 hb9 hg10 hb810 hS1' hB8 hS2
  have hlen1 : (addAll [] (s0 ++ s1)).length ≤ 1048576 := addAll_small (n := len0 + len1) (by rw [List.length_append, Hl.out, Hl1.out]) (by omega)
  have hlen2 : (addAll [] (s1 ++ s0)).length ≤ 1048576 := addAll_small (n := len0 + len1) (by rw [List.length_append, Hl.out, Hl1.out, Nat.add_comm]) (by omega)
  have Heq : Hid ((addAll [] (s1 ++ s0)).length = (addAll [] (s0 ++ s1)).length) := addAll_len_same fun x => by simp [or_comm]
  have hge : (addAll [] s0).length ≤ (addAll [] (s0 ++ s1)).length := len_le_of_sub (addAll_nodup List.nodup_nil) fun x hx => by
    rw [mem_addAll] at hx ⊢
    rcases hx with h | h
    · exact Or.inl h
    · exact Or.inr (List.mem_append.2 (Or.inl h))
  go_wp2_with fail
  refine (toOrdered_any _ _ _ hS110 hlen1).mono ?_
  rintro e w11 ⟨o1, rfl, hp1, hasc1, hk11, hS111, hb11, hzs1⟩
  have hlo : o1.length = (addAll [] (s0 ++ s1)).length := hp1.length_eq
  have ho1 := strs_of_blk hk11 hlo (by unfold maxLen; omega) (fun k s hs => hzs1 s (List.mem_of_getElem? hs))
  have ia11 := ia10.keep hb11
  have ib11 := ib10.keep hb11
  have hS211 := hS2'.below hb11
  have hB11 := below_trans hB10 hb11
  have hz11 := hb11.size
  clear ia10 ib10 hS2' hB10 hb11 hzs1 hS110 hlo hk11
  have Hp1 := Lib.hid hp1
  have Hasc1 := Lib.hid hasc1
  clear hp1 hasc1
  go_wp2_with fail
  refine (toOrdered_any _ _ _ hS211 hlen2).mono ?_
  rintro e w12 ⟨o2, he, hp2, hasc2, hk12, hS212, hb12, hzs2⟩
  rw [Heq.out] at he
  subst he
  have hlo2 : o2.length = (addAll [] (s0 ++ s1)).length := hp2.length_eq.trans Heq.out
  obtain rfl : o2 = o1 := asc_same hasc2 Hasc1.out (hp2.nodup_iff.2 (addAll_nodup List.nodup_nil)) (Hp1.out.nodup_iff.2 (addAll_nodup List.nodup_nil)) fun x => by rw [hp2.mem_iff, Hp1.out.mem_iff, mem_addAll, mem_addAll]; simp [or_comm]
  have ho2 := strs_of_blk hk12 hlo2 (by unfold maxLen; omega) (fun k s hs => hzs2 s (List.mem_of_getElem? hs))
  have ia12 := ia11.keep hb12
  have ib12 := ib11.keep hb12
  have hS112 := hS111.below hb12
  have ho112 := ho1.keep hb12
  have hB12 := below_trans hB11 hb12
  have hz12 := hb12.size
  clear ia11 ib11 hS111 hS211 hS212 ho1 hB11 hb12 hp2 hasc2 hzs2 hk12 hlo2
  go_wp2_with fail
  refine (sameIds_yes _ _ _ _ _ o2 _ ho112 ho2).mono ?_
  rintro e w13 ⟨rfl, m, hw13⟩
  have hb13 : Below w12.heap.size w12 w13 := by rw [hw13]; exact below_drewN (Below.refl _ _) m
  have ia13 := ia12.keep hb13
  have ib13 := ib12.keep hb13
  have hS113 := hS112.below hb13
  have ho113 := ho112.keep hb13
  have hB13 := below_trans hB12 hb13
  have hz13 := hb13.size
  clear ia12 ib12 hS112 ho112 ho2 hB12 hb13 hw13
  go_wp2_with (at_len; refine wpList_len_set rfl _ 27 rfl 35 41 Try.underlying27 _ _ rfl hS113 ?_)
  refine (addIds_any _ _ _ _ _ s1 _ hS113 ib13 hl1 hlen1 (fun b' off e => by injection e with e; injection e with e; omega)).mono ?_
  rintro e w14 ⟨rfl, hS114, hg14⟩
  rw [addAll_has (fun x hx => by rw [mem_addAll]; simp [hx])] at hS114
  have ia14 := ia13.grown hg14 (fun b' off e => by injection e with e; injection e with e; simp; omega)
  have ho114 := ho113.grown hg14 (fun b' off e => by injection e with e; injection e with e; simp; omega)
  have hB14 := below_grown hB13 hg14 (hzw)
  clear hS113 ia13 ib13 ho113 hB13 hg14
  go_wp2_with fail
  refine (addIds_any _ _ _ _ _ s0 _ hS114 ia14 hl hlen1 (fun b' off e => by injection e with e; injection e with e; omega)).mono ?_
  rintro e w15 ⟨rfl, hS115, hg15⟩
  rw [addAll_has (fun x hx => by rw [mem_addAll]; simp [hx])] at hS115
  have ho115 := ho114.grown hg15 (fun b' off e => by injection e with e; injection e with e; simp; omega)
  have hB15 := below_grown hB14 hg15 (hzw)
  clear hS114 ia14 ho114 hB14 hg15
  go_wp2_with fail
  refine (addIds_any _ _ _ _ _ [] _ hS115 (strs_nil _) (by decide) hlen1 (fun b' off e => by cases e)).mono ?_
  rintro e w16 ⟨rfl, hS116, hg16⟩
  rw [addAll_nil] at hS116
  have ho116 := ho115.grown hg16 (fun b' off e => by injection e with e; injection e with e; simp; omega)
  have hB16 := below_grown hB15 hg16 (hzw)
  clear hS115 ho115 hB15 hg16
  go_wp2_with (at_len; refine wpList_len_set rfl _ 27 rfl 35 41 Try.underlying27 _ _ rfl hS116 ?_)
  refine (toOrdered_any _ _ _ hS116 hlen1).mono ?_
  rintro e w17 ⟨o3, rfl, hp3, hasc3, hk17, hS117, hb17, hzs3⟩
  have hlo3 : o3.length = (addAll [] (s0 ++ s1)).length := hp3.length_eq
  obtain rfl : o3 = o2 := asc_unique hasc3 Hasc1.out (hp3.trans Hp1.out.symm)
  have ho3 := strs_of_blk hk17 hlo3 (by unfold maxLen; omega) (fun k s hs => hzs3 s (List.mem_of_getElem? hs))
  have ho117 := ho116.keep hb17
  have hB17 := below_trans hB16 hb17
  clear hS116 ho116 hB16 hb17 hp3 hasc3 hzs3 hk17 hlo3 hS117
  go_wp2_with fail
  refine (sameIds_yes _ _ _ _ _ o3 _ ho117 ho3).mono ?_
  rintro e w18 ⟨rfl, m, hw18⟩
  have hb18 : Below w17.heap.size w17 w18 := by rw [hw18]; exact below_drewN (Below.refl _ _) m
  clear hw18
  go_wp2_with fail
  go_ret
  exact ⟨rfl, below_trans hB17 hb18⟩
end Go.Proofs.Ytdhojpjimglijaa.fnAddIdentifiersCommutesAndIsIdempotent
