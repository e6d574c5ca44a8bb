/- The walk of FnNewIdentifierSetIsSortedDistinct. -/
import Derived.Test.YtdhojpjimglijaaFnNewIdentifierSetIsSortedDistinctB
import Derived.Test.YtdhojpjimglijaaC167Bytes
import Derived.Test.YtdhojpjimglijaaC167Copy
import Derived.Test.YtdhojpjimglijaaC167Idents
import Derived.Test.YtdhojpjimglijaaC167Has
import Derived.Test.YtdhojpjimglijaaC167SameStr
import Derived.Test.YtdhojpjimglijaaC167Dedup
import Derived.Test.YtdhojpjimglijaaCSetNew
import Derived.Test.YtdhojpjimglijaaCSetContains
import Derived.Test.YtdhojpjimglijaaCSetOrdered
import Derived.Test.YtdhojpjimglijaaSetMore
namespace Go.Proofs.Ytdhojpjimglijaa.fnNewIdentifierSetIsSortedDistinct
open Go.ChangeShapes Go.WideShapes Go.ChangeAt Go.RowKit Go.Maps
set_option linter.unusedVariables false

set_option maxHeartbeats 3200000 in
theorem walk (a0 : Option Addr) (len0 cap0 : Nat) (s0 : List ByteArray) (a1 : ByteArray) (w : World) (w0 : IsStrs w a0 len0 cap0 s0) (w1 : a1.size ≤ maxLen) :
    Calls Try.prog 3 #[.slice a0 len0 cap0, .string a1] w fun e w' => e = .returned (.bool true) ∧ Below w.heap.size w w' := by
  go_enter Try.func3, Try.ntmps3
  go_wp2_with fail
  refine (bytes_any _ _ _ _ _ _ w0 w1).mono ?_
  rintro e w' ⟨r, rfl, hr, rfl⟩
  cases r
  · go_wp2_with fail
    go_ret
    exact ⟨rfl, Below.refl _ _⟩
  obtain ⟨hl, hsh, hq⟩ := hr rfl
  clear hr
  go_wp2_with fail
  all_goals try (go_ret; exact ⟨rfl, Below.refl _ _⟩)
  refine (sbytes_any _ _ _ _ _ w0).mono ?_
  rintro e w' ⟨n, rfl, hn0, hn1, rfl⟩
  go_wp2_with fail
  all_goals try (go_ret; exact ⟨rfl, Below.refl _ _⟩)
  refine (clone_any _ _ _ s0 _ w0 hl).mono ?_
  intro e w2 hcp
  obtain ⟨x, c, rfl, _, hb2, hst, _⟩ := hcp.u w0 hl
  have Hl := Lib.hid w0.len
  clear hcp w0 hsh
  go_wp2_with fail
  refine (idents_any _ _ _ s0 _ hst hl).mono ?_
  rintro e w3 ⟨rfl, hb3, hk3⟩
  have hids := strs_of_blk hk3 Hl.out (by unfold maxLen; omega) hst.sizes
  have hst3 := hst.keep hb3
  have hB3 := below_trans hb2 hb3
  clear hst hb2 hb3 hk3
  go_wp2_with fail
  refine (newSet_any _ _ _ s0 _ hids hl).mono ?_
  rintro e w4 ⟨rfl, hS, hb4⟩
  have hst4 := hst3.keep hb4
  have hB4 := below_trans hB3 hb4
  have hlenS := addAll_small Hl.out hl
  clear hst3 hB3 hids hb4
  go_wp2_with fail
  refine (dedup_any _ _ _ s0 _ hst4 hl).mono ?_
  rintro e w5 ⟨g, out, he, hasc, hnd, hmem, hos, hb5⟩
  have hlo : out.length = (addAll [] s0).length := len_of_nodup hnd (addAll_nodup List.nodup_nil) fun x => by rw [hmem, mem_addAll]; simp
  rw [hlo] at he hos
  subst he
  have hS5 := hS.below hb5
  have hst5 := hst4.keep hb5
  have hB5 := below_trans hB4 hb5
  have Hasc := Lib.hid hasc
  have Hnd := Lib.hid hnd
  have Hmem : Hid (∀ x, x ∈ out ↔ x ∈ s0) := hmem
  clear hS hst4 hB4 hb5 hasc hnd hmem hlo
  go_wp2_with (at_len; refine wpList_len_set rfl _ 27 rfl 35 41 Try.underlying27 _ _ rfl (by assumption) ?_)
  refine (toOrdered_any _ _ _ hS5 hlenS).mono ?_
  rintro e w6 ⟨out2, rfl, hp, hasc2, hk6, hS6, hb6, hz⟩
  have hlo : out2.length = (addAll [] s0).length := hp.length_eq
  obtain rfl : out2 = out := asc_same hasc2 Hasc.out (hp.nodup_iff.2 (addAll_nodup List.nodup_nil)) Hnd.out fun x => by rw [hp.mem_iff, Hmem.out, mem_addAll]; simp
  have hos6 := hos.keep hb6
  have hst6 := hst5.keep hb6
  have hB6 := below_trans hB5 hb6
  have hos2 := strs_of_blk hk6 hlo (by unfold maxLen; omega) (fun k s hs => hz s (List.mem_of_getElem? hs))
  clear hS5 hos hst5 hB5 hb6 hasc2 hp hz hlo hk6 Hasc Hnd
  go_wp2_with fail
  refine (sameStr_yes _ _ _ _ _ out2 _ hos2 hos6).mono ?_
  rintro e w7 ⟨rfl, m, hw7⟩
  have hb7 : Below w6.heap.size w6 w7 := by rw [hw7]; exact below_drewN (Below.refl _ _) m
  have hS7 := hS6.below hb7
  have hst7 := hst6.keep hb7
  have hB7 := below_trans hB6 hb7
  clear hw7 hos2 hos6 hS6 hst6 hB6 hb7
  go_wp2_with fail
  refine (contains_any _ _ a1 _ hS7 w1).mono ?_
  rintro e w8 ⟨he, hb8⟩
  have hdd : decide (a1 ∈ addAll [] s0) = decide (a1 ∈ s0) := decide_eq_decide.2 (by rw [mem_addAll]; simp)
  rw [hdd] at he
  subst he
  clear hdd
  go_wp2_with fail
  refine (has_any _ _ _ _ s0 _ (hst7.keep hb8)).mono ?_
  rintro e w9 ⟨rfl, rfl⟩
  go_wp2_with fail
  go_ret
  exact ⟨rfl, below_trans hB7 hb8⟩
end Go.Proofs.Ytdhojpjimglijaa.fnNewIdentifierSetIsSortedDistinct
