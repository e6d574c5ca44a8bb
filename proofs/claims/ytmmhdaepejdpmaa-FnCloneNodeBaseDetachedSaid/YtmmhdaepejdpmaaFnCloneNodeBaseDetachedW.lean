/- The walk of FnCloneNodeBaseDetached. (Written by wip/gen19d.py.) -/
import Derived.Test.YtmmhdaepejdpmaaFnCloneNodeBaseDetachedB
import Derived.Test.YtmmhdaepejdpmaaFnCloneNodeBaseSpecW
namespace Go.Proofs.Ytmmhdaepejdpmaa.fnCloneNodeBaseDetached
open Go.ChangeShapes Go.WideShapes Go.ChangeAt Go.RowKit
open Go.Proofs.Ytmmhdaepejdpmaa.fnCloneNodeBaseSpec (zz_none zz_some strs_of_idrow)
set_option linter.unusedVariables false

theorem row_get {ss : List ByteArray} {rest : List Value} {i : Nat} {s : ByteArray} (h : ss[i]? = some s) : (ss.map Value.string ++ rest).toArray[i]? = some (.string s) := by
  have hi : i < ss.length := by
    rcases Nat.lt_or_ge i ss.length with h' | h'
    · exact h'
    · rw [List.getElem?_eq_none h'] at h; cases h
  rw [List.getElem?_eq_getElem hi] at h
  injection h with h
  simp [List.getElem?_append, hi, h]

theorem row_set0 {ss : List ByteArray} {rest : List Value} {s : ByteArray} (h : ss[0]? = some s) (u : Value) : ((ss.map Value.string ++ rest).toArray.setIfInBounds 0 u)[0]? = some u := by
  have hi : 0 < ss.length := by
    rcases Nat.lt_or_ge 0 ss.length with h' | h'
    · exact h'
    · rw [List.getElem?_eq_none h'] at h; cases h
  have : 0 < (ss.map Value.string ++ rest).toArray.size := by simp; omega
  rw [Array.getElem?_setIfInBounds_self_of_lt this]
theorem row_setL {cs : Array Value} {L : Nat} (h : ¬ L = 0) (u : Value) : (cs.setIfInBounds 0 u)[L]? = cs[L]? := Array.getElem?_setIfInBounds_ne (fun e => h e.symm)

set_option maxRecDepth 20000 in
set_option maxHeartbeats 1600000 in
theorem walk (a0 : Bool) (a1 : ByteArray) (a2 : Option Addr) (len2 cap2 : Nat) (s2 : List ByteArray) (w : World) (w1 : a1.size ≤ maxLen) (w2 : IsStrs w a2 len2 cap2 s2) :
    Calls Try.prog 4 #[.bool a0, .string a1, .slice a2 len2 cap2] w fun e w' => e = .returned (.bool true) ∧ Below w.heap.size w w' := by
  have hm1 := w1
  unfold maxLen at hm1
  go_enter Try.func4, Try.ntmps4
  go_wp2_with fail
  refine (bytes_any _ _ _ _ _ _ _ w1 w2).mono ?_
  rintro e w' ⟨r, rfl, hr, rfl⟩
  cases r
  · go_wp2_with fail
    go_ret
    exact ⟨rfl, Below.refl _ _⟩
  obtain ⟨hl1, hl2, hshort⟩ := hr rfl
  clear hr w1
  have hn : len2 = 0 ∨ len2 = 1 ∨ 2 ≤ len2 := by omega
  cases a0
  · go_wp2_with fail
    all_goals try (go_ret; exact ⟨rfl, Below.refl _ _⟩)
    refine (strBytes_any _ _ _ s2 _ w2).mono ?_
    rintro e w' ⟨m, rfl, hm1, hm2, rfl⟩
    go_wp2_with fail
    all_goals try (go_ret; exact ⟨rfl, Below.refl _ _⟩)
    clear hm1 hm2
    obtain ⟨g, hg⟩ : ∃ z, z = w.heap.size := ⟨_, rfl⟩
    have HX : Hid (Below w.heap.size w (w.alloc (.cells #[.string ⟨#[120]⟩, .slice none 0 0, .pointer none, .slice none 0 0, .pointer none, .string ⟨#[]⟩, .int .i64 0, .int .i64 0, .int .i64 0, .int .i64 0] 41)) ∧ Blk (w.alloc (.cells #[.string ⟨#[120]⟩, .slice none 0 0, .pointer none, .slice none 0 0, .pointer none, .string ⟨#[]⟩, .int .i64 0, .int .i64 0, .int .i64 0, .int .i64 0] 41)) g 41 #[.string ⟨#[120]⟩, .slice none 0 0, .pointer none, .slice none 0 0, .pointer none, .string ⟨#[]⟩, .int .i64 0, .int .i64 0, .int .i64 0, .int .i64 0] ∧ (w.alloc (.cells #[.string ⟨#[120]⟩, .slice none 0 0, .pointer none, .slice none 0 0, .pointer none, .string ⟨#[]⟩, .int .i64 0, .int .i64 0, .int .i64 0, .int .i64 0] 41)).heap.size = w.heap.size + 1) := by
      subst hg
      exact ⟨below_alloc (Below.refl _ _) _, Blk.new w _ _, by simp⟩
    generalize (w.alloc (.cells #[.string ⟨#[120]⟩, .slice none 0 0, .pointer none, .slice none 0 0, .pointer none, .string ⟨#[]⟩, .int .i64 0, .int .i64 0, .int .i64 0, .int .i64 0] 41)) = W at HX ⊢
    rw [← hg]
    obtain ⟨hB, hv, hsz⟩ := HX.out
    have hwg : w.heap.size ≤ g := by omega
    have hgc2 : True := trivial
    clear HX hg hsz
    refine (mkIdents_any _ _ _ s2 _ (w2.keep hB) (by omega)).mono ?_
    intro e W5 hcp
    have hglt := hv.lt
    rcases hn with rfl | rfl | hge2
    · obtain ⟨b6, c6, rfl, -, hb5, hk5, hnew⟩ := hcp.u (w2.keep hB) (by omega)
      have Hag : Hid (∀ b off, b6 = some ⟨b, off, none⟩ → b ≠ g) := fun b off h e => by have := hnew b off h; omega
      replace hv := hv.below hb5 hv.lt
      skip
      replace hB := below_trans hB hb5
      have k3 : W5.cell? ⟨g, 3, none⟩ = some (.slice none 0 0) := hv.cell 3
      have f3 := hv.frozen 3
      have Hv6 : Hid (Blk (W5.setCell ⟨g, 3, none⟩ (.slice b6 0 c6)) g 41 #[.string ⟨#[120]⟩, .slice none 0 0, .pointer none, .slice b6 0 c6, .pointer none, .string ⟨#[]⟩, .int .i64 0, .int .i64 0, .int .i64 0, .int .i64 0]) := by have := hv.set_ 3 (.slice b6 0 c6); simpa [Hid] using this
      skip
      skip
      have HB6 : Hid (Below w.heap.size w (W5.setCell ⟨g, 3, none⟩ (.slice b6 0 c6))) := below_set hB (show w.heap.size ≤ g from hwg) _
      have Hk6 : Hid (IsStrs (W5.setCell ⟨g, 3, none⟩ (.slice b6 0 c6)) b6 0 c6 s2) := hk5.set (p := ⟨g, 3, none⟩) Hag.out _
      clear hb5 hv hB hk5 hglt hcp hnew
      go_wp2_with fail
      generalize (W5.setCell ⟨g, 3, none⟩ (.slice b6 0 c6)) = W6 at Hv6 HB6 Hk6 ⊢
      clear k3 f3
      refine (zz_none g 41 _ _ _ _ _ s2 _ _ _ _ _ _ _ Hv6.out Hk6.out (by omega)).mono ?_
      rintro e W7 ⟨he, q7, g7, c7, hv7, hr7, hge7, hgr7, hq7⟩
      subst he hq7
      have hgw := Hv6.out.lt
      have hB7 : Below w.heap.size w W7 := HB6.out.trans ⟨hgr7.os, hgr7.tape, hgr7.output, hgr7.size, fun i hi => hgr7.block i (Nat.lt_of_lt_of_le hi HB6.out.size) (by simp; omega)⟩
      obtain ⟨rest, hrow7, -, -⟩ := hr7
      clear hgr7 Hv6 HB6 Hk6
      have k3 : W7.cell? ⟨g, 3, none⟩ = some (.slice (some ⟨g7, 0, none⟩) 0 c7) := hv7.cell 3
      go_wp2_with fail
      go_ret
      exact ⟨rfl, hB7⟩
    · obtain ⟨go, hgo⟩ : ∃ z, z = W.heap.size := ⟨_, rfl⟩
      rcases hcp with ⟨h, -⟩ | ⟨-, rfl, hb5, hblk5, -⟩
      · subst h; have := w2.nil rfl; omega
      rw [← hgo] at hblk5 ⊢
      have hk5 : IsStrs W5 (some ⟨go, 0, none⟩) 1 1 s2 := strs_of_blk hblk5 w2.len (by unfold maxLen; omega) w2.sizes
      have hgog : g < go := by omega
      have hcgo : True := trivial
      have Hag : Hid (∀ b off, (some (⟨go, 0, none⟩ : Addr)) = some ⟨b, off, none⟩ → b ≠ g) := fun b off h e => by injection h with h; injection h with h; omega
      clear hgo
      replace hv := hv.below hb5 hv.lt
      skip
      replace hB := below_trans hB hb5
      have k3 : W5.cell? ⟨g, 3, none⟩ = some (.slice none 0 0) := hv.cell 3
      have f3 := hv.frozen 3
      have Hv6 : Hid (Blk (W5.setCell ⟨g, 3, none⟩ (.slice (some ⟨go, 0, none⟩) 1 1)) g 41 #[.string ⟨#[120]⟩, .slice none 0 0, .pointer none, .slice (some ⟨go, 0, none⟩) 1 1, .pointer none, .string ⟨#[]⟩, .int .i64 0, .int .i64 0, .int .i64 0, .int .i64 0]) := by have := hv.set_ 3 (.slice (some ⟨go, 0, none⟩) 1 1); simpa [Hid] using this
      skip
      have Hor6 : Hid (Blk (W5.setCell ⟨g, 3, none⟩ (.slice (some ⟨go, 0, none⟩) 1 1)) go 31 (strA s2)) := hblk5.far (p := ⟨g, 3, none⟩) (by simp only; omega) _
      have HB6 : Hid (Below w.heap.size w (W5.setCell ⟨g, 3, none⟩ (.slice (some ⟨go, 0, none⟩) 1 1))) := below_set hB (show w.heap.size ≤ g from hwg) _
      have Hk6 : Hid (IsStrs (W5.setCell ⟨g, 3, none⟩ (.slice (some ⟨go, 0, none⟩) 1 1)) (some ⟨go, 0, none⟩) 1 1 s2) := hk5.set (p := ⟨g, 3, none⟩) Hag.out _
      clear hb5 hv hB hk5 hglt hblk5
      go_wp2_with fail
      generalize (W5.setCell ⟨g, 3, none⟩ (.slice (some ⟨go, 0, none⟩) 1 1)) = W6 at Hv6 Hor6 HB6 Hk6 ⊢
      clear k3 f3
      refine (zz_none g 41 _ _ _ _ _ s2 _ _ _ _ _ _ _ Hv6.out Hk6.out (by omega)).mono ?_
      rintro e W7 ⟨he, q7, g7, c7, hv7, hr7, hge7, hgr7, hq7⟩
      subst he hq7
      have hor7 : Blk W7 go 31 (strA s2) := (hgr7.block go Hor6.out.lt (by simp; omega)).trans Hor6.out
      have hgol := Hor6.out.lt
      have hgw := Hv6.out.lt
      have hB7 : Below w.heap.size w W7 := HB6.out.trans ⟨hgr7.os, hgr7.tape, hgr7.output, hgr7.size, fun i hi => hgr7.block i (Nat.lt_of_lt_of_le hi HB6.out.size) (by simp; omega)⟩
      obtain ⟨rest, hrow7, -, -⟩ := hr7
      clear hgr7 Hv6 Hor6 HB6 Hk6
      have k3 : W7.cell? ⟨g, 3, none⟩ = some (.slice (some ⟨g7, 0, none⟩) 1 c7) := hv7.cell 3
      go_wp2_with fail
      have HX8 : Hid (Below w.heap.size w W7 ∧ Blk W7 g 41 #[.string ⟨#[120]⟩, .slice none 0 0, .pointer none, .slice (some ⟨g7, 0, none⟩) 1 c7, .pointer none, .string ⟨#[]⟩, .int .i64 0, .int .i64 0, .int .i64 0, .int .i64 0] ∧ Blk W7 g7 31 (s2.map Value.string ++ rest).toArray ∧ Blk W7 go 31 (strA s2)) := ⟨hB7, hv7, hrow7, hor7⟩
      clear hB7 hv7 hrow7 hor7 k3
      generalize W7 = W8 at HX8 ⊢
      obtain ⟨hB8, hv8, hrow8, hor8⟩ := HX8.out
      obtain ⟨ba, oa, x, rfl, hba, hx, hxm, -⟩ := w2.at_ (k := 0) (by omega)
      have hfr := w2.keep hB8
      have e0 : W8.cell? ⟨ba, oa, none⟩ = some (.string x) := by
        obtain ⟨b', o', y, he, -, hy, -, hc⟩ := hfr.at_ (k := 0) (by omega)
        injection he with he; injection he with he1 he2; subst he1 he2
        rw [hx] at hy; injection hy with hy; subst hy
        exact hc
      have hxs : x.size ≤ 1048576 := hshort _ _ (by omega) hx
      have k3 : W8.cell? ⟨g, 3, none⟩ = some (.slice (some ⟨g7, 0, none⟩) 1 c7) := hv8.cell 3
      have p0 : W8.cell? ⟨g7, 0, none⟩ = some (.string x) := by rw [hrow8.cell 0]; exact row_get hx
      have fp0 := hrow8.frozen 0
      have o0 : W8.cell? ⟨go, 0, none⟩ = some (.string x) := by rw [hor8.cell 0]; exact strA_get hx
      go_region
      have HX9 : Hid (Below w.heap.size w (W8.setCell ⟨g7, 0, none⟩ (.string (x ++ (⟨#[33]⟩ : ByteArray)))).drew ∧ Blk (W8.setCell ⟨g7, 0, none⟩ (.string (x ++ (⟨#[33]⟩ : ByteArray)))).drew g 41 #[.string ⟨#[120]⟩, .slice none 0 0, .pointer none, .slice (some ⟨g7, 0, none⟩) 1 c7, .pointer none, .string ⟨#[]⟩, .int .i64 0, .int .i64 0, .int .i64 0, .int .i64 0] ∧ Blk (W8.setCell ⟨g7, 0, none⟩ (.string (x ++ (⟨#[33]⟩ : ByteArray)))).drew g7 31 ((s2.map Value.string ++ rest).toArray.setIfInBounds 0 (.string (x ++ (⟨#[33]⟩ : ByteArray)))) ∧ Blk (W8.setCell ⟨g7, 0, none⟩ (.string (x ++ (⟨#[33]⟩ : ByteArray)))).drew go 31 (strA s2)) :=
        ⟨Below.drew (below_set hB8 (show w.heap.size ≤ g7 by omega) _), (hv8.far (p := ⟨g7, 0, none⟩) (by simp only; omega) _).drew, (hrow8.set_ 0 _).drew, (hor8.far (p := ⟨g7, 0, none⟩) (by simp only; omega) _).drew⟩
      clear hB8 hv8 hrow8 hor8 hfr e0 k3 p0 fp0 o0 HX8
      generalize (W8.setCell ⟨g7, 0, none⟩ (.string (x ++ (⟨#[33]⟩ : ByteArray)))).drew = W9 at HX9 ⊢
      obtain ⟨hB9, hv9, hrow9, hor9⟩ := HX9.out
      have hfr := w2.keep hB9
      have e0 : W9.cell? ⟨ba, oa, none⟩ = some (.string x) := by
        obtain ⟨b', o', y, he, -, hy, -, hc⟩ := hfr.at_ (k := 0) (by omega)
        injection he with he; injection he with he1 he2; subst he1 he2
        rw [hx] at hy; injection hy with hy; subst hy
        exact hc
      have o0 : W9.cell? ⟨go, 0, none⟩ = some (.string x) := by rw [hor9.cell 0]; exact strA_get hx
      have fo0 := hor9.frozen 0
      go_wp2_with fail
      go_quiet (fail)
      go_wp2_with fail
      have HXA : Hid (Below w.heap.size w ((W9.drewN nq).setCell ⟨go, 0, none⟩ (.string (x ++ (⟨#[63]⟩ : ByteArray)))) ∧ Blk ((W9.drewN nq).setCell ⟨go, 0, none⟩ (.string (x ++ (⟨#[63]⟩ : ByteArray)))) g 41 #[.string ⟨#[120]⟩, .slice none 0 0, .pointer none, .slice (some ⟨g7, 0, none⟩) 1 c7, .pointer none, .string ⟨#[]⟩, .int .i64 0, .int .i64 0, .int .i64 0, .int .i64 0] ∧ Blk ((W9.drewN nq).setCell ⟨go, 0, none⟩ (.string (x ++ (⟨#[63]⟩ : ByteArray)))) g7 31 ((s2.map Value.string ++ rest).toArray.setIfInBounds 0 (.string (x ++ (⟨#[33]⟩ : ByteArray))))) :=
        ⟨below_set (below_drewN hB9 _) (show w.heap.size ≤ go by omega) _, (hv9.drewN nq).far (p := ⟨go, 0, none⟩) (by simp only; omega) _, (hrow9.drewN nq).far (p := ⟨go, 0, none⟩) (by simp only; omega) _⟩
      clear hB9 hv9 hrow9 hor9 hfr e0 o0 HX9 fo0
      generalize ((W9.drewN nq).setCell ⟨go, 0, none⟩ (.string (x ++ (⟨#[63]⟩ : ByteArray)))) = W10 at HXA ⊢
      obtain ⟨hBA, hvA, hrowA⟩ := HXA.out
      have hfr := w2.keep hBA
      have k3 : W10.cell? ⟨g, 3, none⟩ = some (.slice (some ⟨g7, 0, none⟩) 1 c7) := hvA.cell 3
      have e0 : W10.cell? ⟨ba, oa, none⟩ = some (.string x) := by
        obtain ⟨b', o', y, he, -, hy, -, hc⟩ := hfr.at_ (k := 0) (by omega)
        injection he with he; injection he with he1 he2; subst he1 he2
        rw [hx] at hy; injection hy with hy; subst hy
        exact hc
      have p0 : W10.cell? ⟨g7, 0, none⟩ = some (.string (x ++ (⟨#[33]⟩ : ByteArray))) := by rw [hrowA.cell 0]; exact row_set0 hx _
      go_quiet (fail)
      go_wp2_with fail
      go_quiet (fail)
      go_wp2_with fail
      go_ret
      exact ⟨rfl, below_drewN (below_drewN hBA _) _⟩
    · obtain ⟨go, hgo⟩ : ∃ z, z = W.heap.size := ⟨_, rfl⟩
      rcases hcp with ⟨h, -⟩ | ⟨-, rfl, hb5, hblk5, -⟩
      · subst h; have := w2.nil rfl; omega
      rw [← hgo] at hblk5 ⊢
      have hk5 : IsStrs W5 (some ⟨go, 0, none⟩) len2 len2 s2 := strs_of_blk hblk5 w2.len (by unfold maxLen; omega) w2.sizes
      have hgog : g < go := by omega
      have hcgo : True := trivial
      have Hag : Hid (∀ b off, (some (⟨go, 0, none⟩ : Addr)) = some ⟨b, off, none⟩ → b ≠ g) := fun b off h e => by injection h with h; injection h with h; omega
      clear hgo
      replace hv := hv.below hb5 hv.lt
      skip
      replace hB := below_trans hB hb5
      have k3 : W5.cell? ⟨g, 3, none⟩ = some (.slice none 0 0) := hv.cell 3
      have f3 := hv.frozen 3
      have Hv6 : Hid (Blk (W5.setCell ⟨g, 3, none⟩ (.slice (some ⟨go, 0, none⟩) len2 len2)) g 41 #[.string ⟨#[120]⟩, .slice none 0 0, .pointer none, .slice (some ⟨go, 0, none⟩) len2 len2, .pointer none, .string ⟨#[]⟩, .int .i64 0, .int .i64 0, .int .i64 0, .int .i64 0]) := by have := hv.set_ 3 (.slice (some ⟨go, 0, none⟩) len2 len2); simpa [Hid] using this
      skip
      have Hor6 : Hid (Blk (W5.setCell ⟨g, 3, none⟩ (.slice (some ⟨go, 0, none⟩) len2 len2)) go 31 (strA s2)) := hblk5.far (p := ⟨g, 3, none⟩) (by simp only; omega) _
      have HB6 : Hid (Below w.heap.size w (W5.setCell ⟨g, 3, none⟩ (.slice (some ⟨go, 0, none⟩) len2 len2))) := below_set hB (show w.heap.size ≤ g from hwg) _
      have Hk6 : Hid (IsStrs (W5.setCell ⟨g, 3, none⟩ (.slice (some ⟨go, 0, none⟩) len2 len2)) (some ⟨go, 0, none⟩) len2 len2 s2) := hk5.set (p := ⟨g, 3, none⟩) Hag.out _
      clear hb5 hv hB hk5 hglt hblk5
      go_wp2_with fail
      generalize (W5.setCell ⟨g, 3, none⟩ (.slice (some ⟨go, 0, none⟩) len2 len2)) = W6 at Hv6 Hor6 HB6 Hk6 ⊢
      clear k3 f3
      refine (zz_none g 41 _ _ _ _ _ s2 _ _ _ _ _ _ _ Hv6.out Hk6.out (by omega)).mono ?_
      rintro e W7 ⟨he, q7, g7, c7, hv7, hr7, hge7, hgr7, hq7⟩
      subst he hq7
      have hor7 : Blk W7 go 31 (strA s2) := (hgr7.block go Hor6.out.lt (by simp; omega)).trans Hor6.out
      have hgol := Hor6.out.lt
      have hgw := Hv6.out.lt
      have hB7 : Below w.heap.size w W7 := HB6.out.trans ⟨hgr7.os, hgr7.tape, hgr7.output, hgr7.size, fun i hi => hgr7.block i (Nat.lt_of_lt_of_le hi HB6.out.size) (by simp; omega)⟩
      obtain ⟨rest, hrow7, -, -⟩ := hr7
      clear hgr7 Hv6 Hor6 HB6 Hk6
      have k3 : W7.cell? ⟨g, 3, none⟩ = some (.slice (some ⟨g7, 0, none⟩) len2 c7) := hv7.cell 3
      go_wp2_with fail
      have HX8 : Hid (Below w.heap.size w W7 ∧ Blk W7 g 41 #[.string ⟨#[120]⟩, .slice none 0 0, .pointer none, .slice (some ⟨g7, 0, none⟩) len2 c7, .pointer none, .string ⟨#[]⟩, .int .i64 0, .int .i64 0, .int .i64 0, .int .i64 0] ∧ Blk W7 g7 31 (s2.map Value.string ++ rest).toArray ∧ Blk W7 go 31 (strA s2)) := ⟨hB7, hv7, hrow7, hor7⟩
      clear hB7 hv7 hrow7 hor7 k3
      generalize W7 = W8 at HX8 ⊢
      obtain ⟨hB8, hv8, hrow8, hor8⟩ := HX8.out
      obtain ⟨ba, oa, x, rfl, hba, hx, hxm, -⟩ := w2.at_ (k := 0) (by omega)
      have hfr := w2.keep hB8
      have e0 : W8.cell? ⟨ba, oa, none⟩ = some (.string x) := by
        obtain ⟨b', o', y, he, -, hy, -, hc⟩ := hfr.at_ (k := 0) (by omega)
        injection he with he; injection he with he1 he2; subst he1 he2
        rw [hx] at hy; injection hy with hy; subst hy
        exact hc
      have hxs : x.size ≤ 1048576 := hshort _ _ (by omega) hx
      have k3 : W8.cell? ⟨g, 3, none⟩ = some (.slice (some ⟨g7, 0, none⟩) len2 c7) := hv8.cell 3
      have p0 : W8.cell? ⟨g7, 0, none⟩ = some (.string x) := by rw [hrow8.cell 0]; exact row_get hx
      have fp0 := hrow8.frozen 0
      have o0 : W8.cell? ⟨go, 0, none⟩ = some (.string x) := by rw [hor8.cell 0]; exact strA_get hx
      go_region
      have HX9 : Hid (Below w.heap.size w (W8.setCell ⟨g7, 0, none⟩ (.string (x ++ (⟨#[33]⟩ : ByteArray)))).drew ∧ Blk (W8.setCell ⟨g7, 0, none⟩ (.string (x ++ (⟨#[33]⟩ : ByteArray)))).drew g 41 #[.string ⟨#[120]⟩, .slice none 0 0, .pointer none, .slice (some ⟨g7, 0, none⟩) len2 c7, .pointer none, .string ⟨#[]⟩, .int .i64 0, .int .i64 0, .int .i64 0, .int .i64 0] ∧ Blk (W8.setCell ⟨g7, 0, none⟩ (.string (x ++ (⟨#[33]⟩ : ByteArray)))).drew g7 31 ((s2.map Value.string ++ rest).toArray.setIfInBounds 0 (.string (x ++ (⟨#[33]⟩ : ByteArray)))) ∧ Blk (W8.setCell ⟨g7, 0, none⟩ (.string (x ++ (⟨#[33]⟩ : ByteArray)))).drew go 31 (strA s2)) :=
        ⟨Below.drew (below_set hB8 (show w.heap.size ≤ g7 by omega) _), (hv8.far (p := ⟨g7, 0, none⟩) (by simp only; omega) _).drew, (hrow8.set_ 0 _).drew, (hor8.far (p := ⟨g7, 0, none⟩) (by simp only; omega) _).drew⟩
      clear hB8 hv8 hrow8 hor8 hfr e0 k3 p0 fp0 o0 HX8
      generalize (W8.setCell ⟨g7, 0, none⟩ (.string (x ++ (⟨#[33]⟩ : ByteArray)))).drew = W9 at HX9 ⊢
      obtain ⟨hB9, hv9, hrow9, hor9⟩ := HX9.out
      have hfr := w2.keep hB9
      have e0 : W9.cell? ⟨ba, oa, none⟩ = some (.string x) := by
        obtain ⟨b', o', y, he, -, hy, -, hc⟩ := hfr.at_ (k := 0) (by omega)
        injection he with he; injection he with he1 he2; subst he1 he2
        rw [hx] at hy; injection hy with hy; subst hy
        exact hc
      have o0 : W9.cell? ⟨go, 0, none⟩ = some (.string x) := by rw [hor9.cell 0]; exact strA_get hx
      obtain ⟨L, hL⟩ : ∃ L, len2 = L + 1 := ⟨len2 - 1, by omega⟩
      obtain ⟨b', o', y, he, -, hy, -, ey⟩ := hfr.at_ (k := L) (by omega)
      injection he with he; injection he with he1 he2; subst he1 he2
      have hys : y.size ≤ 1048576 := hshort _ _ (by omega) hy
      have oy : W9.cell? ⟨go, L, none⟩ = some (.string y) := by rw [hor9.cell L]; exact strA_get hy
      have foy := hor9.frozen L
      have HL1 : Hid (len2 = L + 1) := hL
      have tL : ((len2 : Int) - 1).toNat = L := by omega
      have iL : (len2 : Int) - 1 = (L : Int) := by omega
      have hLn : L < len2 := by omega
      have hL0 : ¬ L = 0 := by omega
      clear hL
      go_wp2_with fail
      go_quiet (fail)
      go_wp2_with fail
      have HXA : Hid (Below w.heap.size w ((W9.drewN nq).setCell ⟨go, L, none⟩ (.string (y ++ (⟨#[63]⟩ : ByteArray)))) ∧ Blk ((W9.drewN nq).setCell ⟨go, L, none⟩ (.string (y ++ (⟨#[63]⟩ : ByteArray)))) g 41 #[.string ⟨#[120]⟩, .slice none 0 0, .pointer none, .slice (some ⟨g7, 0, none⟩) len2 c7, .pointer none, .string ⟨#[]⟩, .int .i64 0, .int .i64 0, .int .i64 0, .int .i64 0] ∧ Blk ((W9.drewN nq).setCell ⟨go, L, none⟩ (.string (y ++ (⟨#[63]⟩ : ByteArray)))) g7 31 ((s2.map Value.string ++ rest).toArray.setIfInBounds 0 (.string (x ++ (⟨#[33]⟩ : ByteArray))))) :=
        ⟨below_set (below_drewN hB9 _) (show w.heap.size ≤ go by omega) _, (hv9.drewN nq).far (p := ⟨go, L, none⟩) (by simp only; omega) _, (hrow9.drewN nq).far (p := ⟨go, L, none⟩) (by simp only; omega) _⟩
      clear hB9 hv9 hrow9 hor9 hfr e0 o0 HX9 ey oy foy
      generalize ((W9.drewN nq).setCell ⟨go, L, none⟩ (.string (y ++ (⟨#[63]⟩ : ByteArray)))) = W10 at HXA ⊢
      obtain ⟨hBA, hvA, hrowA⟩ := HXA.out
      have hfr := w2.keep hBA
      have k3 : W10.cell? ⟨g, 3, none⟩ = some (.slice (some ⟨g7, 0, none⟩) len2 c7) := hvA.cell 3
      have eL : W10.cell? ⟨ba, oa + L, none⟩ = some (.string y) := by
        obtain ⟨b', o', z, he, -, hz, -, hc⟩ := hfr.at_ (k := L) (by omega)
        injection he with he; injection he with he1 he2; subst he1 he2
        rw [hy] at hz; injection hz with hz; subst hz
        exact hc
      have pL : W10.cell? ⟨g7, L, none⟩ = some (.string y) := by rw [hrowA.cell L]; exact (row_setL hL0 _).trans (row_get hy)
      have g1 : (1 : Int) < (len2 : Int) := by omega
      have g1' : 1 < len2 := by omega
      have g2 : ¬ (len2 : Int) = 1 := by omega
      have g2' : ¬ len2 = 1 := by omega
      go_quiet (fail)
      go_wp2_with fail
      go_quiet (fail)
      go_wp2_with fail
      go_ret
      exact ⟨rfl, below_drewN (below_drewN hBA _) _⟩
  · go_wp2_with fail
    all_goals try (go_ret; exact ⟨rfl, Below.refl _ _⟩)
    refine (strBytes_any _ _ _ s2 _ w2).mono ?_
    rintro e w' ⟨m, rfl, hm1, hm2, rfl⟩
    go_wp2_with fail
    all_goals try (go_ret; exact ⟨rfl, Below.refl _ _⟩)
    clear hm1 hm2
    obtain ⟨g, hg⟩ : ∃ z, z = w.heap.size := ⟨_, rfl⟩
    obtain ⟨gc, hgc⟩ : ∃ z, z = w.heap.size + 1 := ⟨_, rfl⟩
    have HX : Hid (Below w.heap.size w ((w.alloc (.cells #[.string ⟨#[120]⟩, .slice none 0 0, .pointer (some ⟨w.heap.size + 1, 0, none⟩), .slice none 0 0, .pointer none, .string ⟨#[]⟩, .int .i64 0, .int .i64 0, .int .i64 0, .int .i64 0] 41)).alloc (.cells #[.string a1] 9)) ∧ Blk ((w.alloc (.cells #[.string ⟨#[120]⟩, .slice none 0 0, .pointer (some ⟨w.heap.size + 1, 0, none⟩), .slice none 0 0, .pointer none, .string ⟨#[]⟩, .int .i64 0, .int .i64 0, .int .i64 0, .int .i64 0] 41)).alloc (.cells #[.string a1] 9)) g 41 #[.string ⟨#[120]⟩, .slice none 0 0, .pointer (some ⟨gc, 0, none⟩), .slice none 0 0, .pointer none, .string ⟨#[]⟩, .int .i64 0, .int .i64 0, .int .i64 0, .int .i64 0] ∧ Blk ((w.alloc (.cells #[.string ⟨#[120]⟩, .slice none 0 0, .pointer (some ⟨w.heap.size + 1, 0, none⟩), .slice none 0 0, .pointer none, .string ⟨#[]⟩, .int .i64 0, .int .i64 0, .int .i64 0, .int .i64 0] 41)).alloc (.cells #[.string a1] 9)) gc 9 #[.string a1] ∧ ((w.alloc (.cells #[.string ⟨#[120]⟩, .slice none 0 0, .pointer (some ⟨w.heap.size + 1, 0, none⟩), .slice none 0 0, .pointer none, .string ⟨#[]⟩, .int .i64 0, .int .i64 0, .int .i64 0, .int .i64 0] 41)).alloc (.cells #[.string a1] 9)).heap.size = w.heap.size + 2) := by
      subst hg hgc
      exact ⟨below_alloc (below_alloc (Below.refl _ _) _) _, (Blk.new w _ _).alloc _, Blk.new1 w _ _ _, by simp⟩
    generalize ((w.alloc (.cells #[.string ⟨#[120]⟩, .slice none 0 0, .pointer (some ⟨w.heap.size + 1, 0, none⟩), .slice none 0 0, .pointer none, .string ⟨#[]⟩, .int .i64 0, .int .i64 0, .int .i64 0, .int .i64 0] 41)).alloc (.cells #[.string a1] 9)) = W at HX ⊢
    rw [← hgc, ← hg]
    obtain ⟨hB, hv, hcx, hsz⟩ := HX.out
    have hwg : w.heap.size ≤ g := by omega
    have hgc2 : g < gc := by omega
    clear HX hg hgc hsz
    refine (mkIdents_any _ _ _ s2 _ (w2.keep hB) (by omega)).mono ?_
    intro e W5 hcp
    have hglt := hv.lt
    rcases hn with rfl | rfl | hge2
    · obtain ⟨b6, c6, rfl, -, hb5, hk5, hnew⟩ := hcp.u (w2.keep hB) (by omega)
      have Hag : Hid (∀ b off, b6 = some ⟨b, off, none⟩ → b ≠ g) := fun b off h e => by have := hnew b off h; omega
      replace hv := hv.below hb5 hv.lt
      replace hcx := hcx.below hb5 hcx.lt
      replace hB := below_trans hB hb5
      have k3 : W5.cell? ⟨g, 3, none⟩ = some (.slice none 0 0) := hv.cell 3
      have f3 := hv.frozen 3
      have Hv6 : Hid (Blk (W5.setCell ⟨g, 3, none⟩ (.slice b6 0 c6)) g 41 #[.string ⟨#[120]⟩, .slice none 0 0, .pointer (some ⟨gc, 0, none⟩), .slice b6 0 c6, .pointer none, .string ⟨#[]⟩, .int .i64 0, .int .i64 0, .int .i64 0, .int .i64 0]) := by have := hv.set_ 3 (.slice b6 0 c6); simpa [Hid] using this
      have Hcx6 : Hid (Blk (W5.setCell ⟨g, 3, none⟩ (.slice b6 0 c6)) gc 9 #[.string a1]) := hcx.far (p := ⟨g, 3, none⟩) (by simp only; omega) _
      skip
      have HB6 : Hid (Below w.heap.size w (W5.setCell ⟨g, 3, none⟩ (.slice b6 0 c6))) := below_set hB (show w.heap.size ≤ g from hwg) _
      have Hk6 : Hid (IsStrs (W5.setCell ⟨g, 3, none⟩ (.slice b6 0 c6)) b6 0 c6 s2) := hk5.set (p := ⟨g, 3, none⟩) Hag.out _
      clear hb5 hv hcx hB hk5 hglt hcp hnew
      go_wp2_with fail
      generalize (W5.setCell ⟨g, 3, none⟩ (.slice b6 0 c6)) = W6 at Hv6 Hcx6 HB6 Hk6 ⊢
      clear k3 f3
      refine (zz_some g 41 _ _ _ _ _ s2 _ _ _ _ _ _ _ gc 0 a1 Hv6.out (Hcx6.out.cell 0) Hag.out Hk6.out (by omega)).mono ?_
      rintro e W7 ⟨he, q7, g7, c7, hv7, hr7, hge7, hgr7, k, hqk, hlk, hkg, hbk⟩
      subst he hqk
      have hcx7 : Blk W7 gc 9 #[.string a1] := (hgr7.block gc Hcx6.out.lt (by simp; omega)).trans Hcx6.out
      have hgcl := Hcx6.out.lt
      have hgw := Hv6.out.lt
      have hB7 : Below w.heap.size w W7 := HB6.out.trans ⟨hgr7.os, hgr7.tape, hgr7.output, hgr7.size, fun i hi => hgr7.block i (Nat.lt_of_lt_of_le hi HB6.out.size) (by simp; omega)⟩
      obtain ⟨rest, hrow7, -, -⟩ := hr7
      clear hgr7 Hv6 Hcx6 HB6 Hk6
      have k2 : W7.cell? ⟨g, 2, none⟩ = some (.pointer (some ⟨k, 0, none⟩)) := hv7.cell 2
      have ck : W7.cell? ⟨k, 0, none⟩ = some (.string a1) := hbk.cell 0
      have fk := hbk.frozen 0
      have cc : W7.cell? ⟨gc, 0, none⟩ = some (.string a1) := hcx7.cell 0
      have fc := hcx7.frozen 0
      have nkg : ¬ k = g := by omega
      have nkg' : ¬ g = k := by omega
      have nkc : ¬ k = gc := by omega
      have nkc' : ¬ gc = k := by omega
      have ngc : ¬ g = gc := by omega
      have ngc' : ¬ gc = g := by omega
      obtain ⟨s1, hs1⟩ : ∃ z, z = a1 ++ (⟨#[33]⟩ : ByteArray) := ⟨_, rfl⟩
      obtain ⟨s3, hs3⟩ : ∃ z, z = a1 ++ (⟨#[63]⟩ : ByteArray) := ⟨_, rfl⟩
      have k3 : W7.cell? ⟨g, 3, none⟩ = some (.slice (some ⟨g7, 0, none⟩) 0 c7) := hv7.cell 3
      go_wp2_with fail
      go_ret
      exact ⟨rfl, below_set (below_set hB7 (show w.heap.size ≤ k by omega) _) (show w.heap.size ≤ gc by omega) _⟩
    · obtain ⟨go, hgo⟩ : ∃ z, z = W.heap.size := ⟨_, rfl⟩
      rcases hcp with ⟨h, -⟩ | ⟨-, rfl, hb5, hblk5, -⟩
      · subst h; have := w2.nil rfl; omega
      rw [← hgo] at hblk5 ⊢
      have hk5 : IsStrs W5 (some ⟨go, 0, none⟩) 1 1 s2 := strs_of_blk hblk5 w2.len (by unfold maxLen; omega) w2.sizes
      have hgog : g < go := by omega
      have hcgo : gc < go := by have := hcx.lt; omega
      have Hag : Hid (∀ b off, (some (⟨go, 0, none⟩ : Addr)) = some ⟨b, off, none⟩ → b ≠ g) := fun b off h e => by injection h with h; injection h with h; omega
      clear hgo
      replace hv := hv.below hb5 hv.lt
      replace hcx := hcx.below hb5 hcx.lt
      replace hB := below_trans hB hb5
      have k3 : W5.cell? ⟨g, 3, none⟩ = some (.slice none 0 0) := hv.cell 3
      have f3 := hv.frozen 3
      have Hv6 : Hid (Blk (W5.setCell ⟨g, 3, none⟩ (.slice (some ⟨go, 0, none⟩) 1 1)) g 41 #[.string ⟨#[120]⟩, .slice none 0 0, .pointer (some ⟨gc, 0, none⟩), .slice (some ⟨go, 0, none⟩) 1 1, .pointer none, .string ⟨#[]⟩, .int .i64 0, .int .i64 0, .int .i64 0, .int .i64 0]) := by have := hv.set_ 3 (.slice (some ⟨go, 0, none⟩) 1 1); simpa [Hid] using this
      have Hcx6 : Hid (Blk (W5.setCell ⟨g, 3, none⟩ (.slice (some ⟨go, 0, none⟩) 1 1)) gc 9 #[.string a1]) := hcx.far (p := ⟨g, 3, none⟩) (by simp only; omega) _
      have Hor6 : Hid (Blk (W5.setCell ⟨g, 3, none⟩ (.slice (some ⟨go, 0, none⟩) 1 1)) go 31 (strA s2)) := hblk5.far (p := ⟨g, 3, none⟩) (by simp only; omega) _
      have HB6 : Hid (Below w.heap.size w (W5.setCell ⟨g, 3, none⟩ (.slice (some ⟨go, 0, none⟩) 1 1))) := below_set hB (show w.heap.size ≤ g from hwg) _
      have Hk6 : Hid (IsStrs (W5.setCell ⟨g, 3, none⟩ (.slice (some ⟨go, 0, none⟩) 1 1)) (some ⟨go, 0, none⟩) 1 1 s2) := hk5.set (p := ⟨g, 3, none⟩) Hag.out _
      clear hb5 hv hcx hB hk5 hglt hblk5
      go_wp2_with fail
      generalize (W5.setCell ⟨g, 3, none⟩ (.slice (some ⟨go, 0, none⟩) 1 1)) = W6 at Hv6 Hcx6 Hor6 HB6 Hk6 ⊢
      clear k3 f3
      refine (zz_some g 41 _ _ _ _ _ s2 _ _ _ _ _ _ _ gc 0 a1 Hv6.out (Hcx6.out.cell 0) Hag.out Hk6.out (by omega)).mono ?_
      rintro e W7 ⟨he, q7, g7, c7, hv7, hr7, hge7, hgr7, k, hqk, hlk, hkg, hbk⟩
      subst he hqk
      have hcx7 : Blk W7 gc 9 #[.string a1] := (hgr7.block gc Hcx6.out.lt (by simp; omega)).trans Hcx6.out
      have hgcl := Hcx6.out.lt
      have hor7 : Blk W7 go 31 (strA s2) := (hgr7.block go Hor6.out.lt (by simp; omega)).trans Hor6.out
      have hgol := Hor6.out.lt
      have hgw := Hv6.out.lt
      have hB7 : Below w.heap.size w W7 := HB6.out.trans ⟨hgr7.os, hgr7.tape, hgr7.output, hgr7.size, fun i hi => hgr7.block i (Nat.lt_of_lt_of_le hi HB6.out.size) (by simp; omega)⟩
      obtain ⟨rest, hrow7, -, -⟩ := hr7
      clear hgr7 Hv6 Hcx6 Hor6 HB6 Hk6
      have k2 : W7.cell? ⟨g, 2, none⟩ = some (.pointer (some ⟨k, 0, none⟩)) := hv7.cell 2
      have ck : W7.cell? ⟨k, 0, none⟩ = some (.string a1) := hbk.cell 0
      have fk := hbk.frozen 0
      have cc : W7.cell? ⟨gc, 0, none⟩ = some (.string a1) := hcx7.cell 0
      have fc := hcx7.frozen 0
      have nkg : ¬ k = g := by omega
      have nkg' : ¬ g = k := by omega
      have nkc : ¬ k = gc := by omega
      have nkc' : ¬ gc = k := by omega
      have ngc : ¬ g = gc := by omega
      have ngc' : ¬ gc = g := by omega
      obtain ⟨s1, hs1⟩ : ∃ z, z = a1 ++ (⟨#[33]⟩ : ByteArray) := ⟨_, rfl⟩
      obtain ⟨s3, hs3⟩ : ∃ z, z = a1 ++ (⟨#[63]⟩ : ByteArray) := ⟨_, rfl⟩
      have k3 : W7.cell? ⟨g, 3, none⟩ = some (.slice (some ⟨g7, 0, none⟩) 1 c7) := hv7.cell 3
      go_wp2_with fail
      have HX8 : Hid (Below w.heap.size w ((W7.setCell ⟨k, 0, none⟩ (.string (a1 ++ (⟨#[33]⟩ : ByteArray)))).setCell ⟨gc, 0, none⟩ (.string (a1 ++ (⟨#[63]⟩ : ByteArray)))) ∧ Blk ((W7.setCell ⟨k, 0, none⟩ (.string (a1 ++ (⟨#[33]⟩ : ByteArray)))).setCell ⟨gc, 0, none⟩ (.string (a1 ++ (⟨#[63]⟩ : ByteArray)))) g 41 #[.string ⟨#[120]⟩, .slice none 0 0, .pointer (some ⟨k, 0, none⟩), .slice (some ⟨g7, 0, none⟩) 1 c7, .pointer none, .string ⟨#[]⟩, .int .i64 0, .int .i64 0, .int .i64 0, .int .i64 0] ∧ Blk ((W7.setCell ⟨k, 0, none⟩ (.string (a1 ++ (⟨#[33]⟩ : ByteArray)))).setCell ⟨gc, 0, none⟩ (.string (a1 ++ (⟨#[63]⟩ : ByteArray)))) g7 31 (s2.map Value.string ++ rest).toArray ∧ Blk ((W7.setCell ⟨k, 0, none⟩ (.string (a1 ++ (⟨#[33]⟩ : ByteArray)))).setCell ⟨gc, 0, none⟩ (.string (a1 ++ (⟨#[63]⟩ : ByteArray)))) go 31 (strA s2)) :=
        ⟨below_set (below_set hB7 (show w.heap.size ≤ k by omega) _) (show w.heap.size ≤ gc by omega) _, (hv7.far (p := ⟨k, 0, none⟩) (by simp only; omega) _).far (p := ⟨gc, 0, none⟩) (by simp only; omega) _, (hrow7.far (p := ⟨k, 0, none⟩) (by simp only; omega) _).far (p := ⟨gc, 0, none⟩) (by simp only; omega) _, (hor7.far (p := ⟨k, 0, none⟩) (by simp only; omega) _).far (p := ⟨gc, 0, none⟩) (by simp only; omega) _⟩
      clear hB7 hv7 hrow7 hor7 hbk hcx7 k2 ck fk cc fc nkg nkg' nkc nkc' ngc ngc' hs1 hs3 k3
      generalize ((W7.setCell ⟨k, 0, none⟩ (.string (a1 ++ (⟨#[33]⟩ : ByteArray)))).setCell ⟨gc, 0, none⟩ (.string (a1 ++ (⟨#[63]⟩ : ByteArray)))) = W8 at HX8 ⊢
      obtain ⟨hB8, hv8, hrow8, hor8⟩ := HX8.out
      obtain ⟨ba, oa, x, rfl, hba, hx, hxm, -⟩ := w2.at_ (k := 0) (by omega)
      have hfr := w2.keep hB8
      have e0 : W8.cell? ⟨ba, oa, none⟩ = some (.string x) := by
        obtain ⟨b', o', y, he, -, hy, -, hc⟩ := hfr.at_ (k := 0) (by omega)
        injection he with he; injection he with he1 he2; subst he1 he2
        rw [hx] at hy; injection hy with hy; subst hy
        exact hc
      have hxs : x.size ≤ 1048576 := hshort _ _ (by omega) hx
      have k3 : W8.cell? ⟨g, 3, none⟩ = some (.slice (some ⟨g7, 0, none⟩) 1 c7) := hv8.cell 3
      have p0 : W8.cell? ⟨g7, 0, none⟩ = some (.string x) := by rw [hrow8.cell 0]; exact row_get hx
      have fp0 := hrow8.frozen 0
      have o0 : W8.cell? ⟨go, 0, none⟩ = some (.string x) := by rw [hor8.cell 0]; exact strA_get hx
      go_region
      have HX9 : Hid (Below w.heap.size w (W8.setCell ⟨g7, 0, none⟩ (.string (x ++ (⟨#[33]⟩ : ByteArray)))).drew ∧ Blk (W8.setCell ⟨g7, 0, none⟩ (.string (x ++ (⟨#[33]⟩ : ByteArray)))).drew g 41 #[.string ⟨#[120]⟩, .slice none 0 0, .pointer (some ⟨k, 0, none⟩), .slice (some ⟨g7, 0, none⟩) 1 c7, .pointer none, .string ⟨#[]⟩, .int .i64 0, .int .i64 0, .int .i64 0, .int .i64 0] ∧ Blk (W8.setCell ⟨g7, 0, none⟩ (.string (x ++ (⟨#[33]⟩ : ByteArray)))).drew g7 31 ((s2.map Value.string ++ rest).toArray.setIfInBounds 0 (.string (x ++ (⟨#[33]⟩ : ByteArray)))) ∧ Blk (W8.setCell ⟨g7, 0, none⟩ (.string (x ++ (⟨#[33]⟩ : ByteArray)))).drew go 31 (strA s2)) :=
        ⟨Below.drew (below_set hB8 (show w.heap.size ≤ g7 by omega) _), (hv8.far (p := ⟨g7, 0, none⟩) (by simp only; omega) _).drew, (hrow8.set_ 0 _).drew, (hor8.far (p := ⟨g7, 0, none⟩) (by simp only; omega) _).drew⟩
      clear hB8 hv8 hrow8 hor8 hfr e0 k3 p0 fp0 o0 HX8
      generalize (W8.setCell ⟨g7, 0, none⟩ (.string (x ++ (⟨#[33]⟩ : ByteArray)))).drew = W9 at HX9 ⊢
      obtain ⟨hB9, hv9, hrow9, hor9⟩ := HX9.out
      have hfr := w2.keep hB9
      have e0 : W9.cell? ⟨ba, oa, none⟩ = some (.string x) := by
        obtain ⟨b', o', y, he, -, hy, -, hc⟩ := hfr.at_ (k := 0) (by omega)
        injection he with he; injection he with he1 he2; subst he1 he2
        rw [hx] at hy; injection hy with hy; subst hy
        exact hc
      have o0 : W9.cell? ⟨go, 0, none⟩ = some (.string x) := by rw [hor9.cell 0]; exact strA_get hx
      have fo0 := hor9.frozen 0
      go_wp2_with fail
      go_quiet (fail)
      go_wp2_with fail
      have HXA : Hid (Below w.heap.size w ((W9.drewN nq).setCell ⟨go, 0, none⟩ (.string (x ++ (⟨#[63]⟩ : ByteArray)))) ∧ Blk ((W9.drewN nq).setCell ⟨go, 0, none⟩ (.string (x ++ (⟨#[63]⟩ : ByteArray)))) g 41 #[.string ⟨#[120]⟩, .slice none 0 0, .pointer (some ⟨k, 0, none⟩), .slice (some ⟨g7, 0, none⟩) 1 c7, .pointer none, .string ⟨#[]⟩, .int .i64 0, .int .i64 0, .int .i64 0, .int .i64 0] ∧ Blk ((W9.drewN nq).setCell ⟨go, 0, none⟩ (.string (x ++ (⟨#[63]⟩ : ByteArray)))) g7 31 ((s2.map Value.string ++ rest).toArray.setIfInBounds 0 (.string (x ++ (⟨#[33]⟩ : ByteArray))))) :=
        ⟨below_set (below_drewN hB9 _) (show w.heap.size ≤ go by omega) _, (hv9.drewN nq).far (p := ⟨go, 0, none⟩) (by simp only; omega) _, (hrow9.drewN nq).far (p := ⟨go, 0, none⟩) (by simp only; omega) _⟩
      clear hB9 hv9 hrow9 hor9 hfr e0 o0 HX9 fo0
      generalize ((W9.drewN nq).setCell ⟨go, 0, none⟩ (.string (x ++ (⟨#[63]⟩ : ByteArray)))) = W10 at HXA ⊢
      obtain ⟨hBA, hvA, hrowA⟩ := HXA.out
      have hfr := w2.keep hBA
      have k3 : W10.cell? ⟨g, 3, none⟩ = some (.slice (some ⟨g7, 0, none⟩) 1 c7) := hvA.cell 3
      have e0 : W10.cell? ⟨ba, oa, none⟩ = some (.string x) := by
        obtain ⟨b', o', y, he, -, hy, -, hc⟩ := hfr.at_ (k := 0) (by omega)
        injection he with he; injection he with he1 he2; subst he1 he2
        rw [hx] at hy; injection hy with hy; subst hy
        exact hc
      have p0 : W10.cell? ⟨g7, 0, none⟩ = some (.string (x ++ (⟨#[33]⟩ : ByteArray))) := by rw [hrowA.cell 0]; exact row_set0 hx _
      go_quiet (fail)
      go_wp2_with fail
      go_quiet (fail)
      go_wp2_with fail
      go_ret
      exact ⟨rfl, below_drewN (below_drewN hBA _) _⟩
    · obtain ⟨go, hgo⟩ : ∃ z, z = W.heap.size := ⟨_, rfl⟩
      rcases hcp with ⟨h, -⟩ | ⟨-, rfl, hb5, hblk5, -⟩
      · subst h; have := w2.nil rfl; omega
      rw [← hgo] at hblk5 ⊢
      have hk5 : IsStrs W5 (some ⟨go, 0, none⟩) len2 len2 s2 := strs_of_blk hblk5 w2.len (by unfold maxLen; omega) w2.sizes
      have hgog : g < go := by omega
      have hcgo : gc < go := by have := hcx.lt; omega
      have Hag : Hid (∀ b off, (some (⟨go, 0, none⟩ : Addr)) = some ⟨b, off, none⟩ → b ≠ g) := fun b off h e => by injection h with h; injection h with h; omega
      clear hgo
      replace hv := hv.below hb5 hv.lt
      replace hcx := hcx.below hb5 hcx.lt
      replace hB := below_trans hB hb5
      have k3 : W5.cell? ⟨g, 3, none⟩ = some (.slice none 0 0) := hv.cell 3
      have f3 := hv.frozen 3
      have Hv6 : Hid (Blk (W5.setCell ⟨g, 3, none⟩ (.slice (some ⟨go, 0, none⟩) len2 len2)) g 41 #[.string ⟨#[120]⟩, .slice none 0 0, .pointer (some ⟨gc, 0, none⟩), .slice (some ⟨go, 0, none⟩) len2 len2, .pointer none, .string ⟨#[]⟩, .int .i64 0, .int .i64 0, .int .i64 0, .int .i64 0]) := by have := hv.set_ 3 (.slice (some ⟨go, 0, none⟩) len2 len2); simpa [Hid] using this
      have Hcx6 : Hid (Blk (W5.setCell ⟨g, 3, none⟩ (.slice (some ⟨go, 0, none⟩) len2 len2)) gc 9 #[.string a1]) := hcx.far (p := ⟨g, 3, none⟩) (by simp only; omega) _
      have Hor6 : Hid (Blk (W5.setCell ⟨g, 3, none⟩ (.slice (some ⟨go, 0, none⟩) len2 len2)) go 31 (strA s2)) := hblk5.far (p := ⟨g, 3, none⟩) (by simp only; omega) _
      have HB6 : Hid (Below w.heap.size w (W5.setCell ⟨g, 3, none⟩ (.slice (some ⟨go, 0, none⟩) len2 len2))) := below_set hB (show w.heap.size ≤ g from hwg) _
      have Hk6 : Hid (IsStrs (W5.setCell ⟨g, 3, none⟩ (.slice (some ⟨go, 0, none⟩) len2 len2)) (some ⟨go, 0, none⟩) len2 len2 s2) := hk5.set (p := ⟨g, 3, none⟩) Hag.out _
      clear hb5 hv hcx hB hk5 hglt hblk5
      go_wp2_with fail
      generalize (W5.setCell ⟨g, 3, none⟩ (.slice (some ⟨go, 0, none⟩) len2 len2)) = W6 at Hv6 Hcx6 Hor6 HB6 Hk6 ⊢
      clear k3 f3
      refine (zz_some g 41 _ _ _ _ _ s2 _ _ _ _ _ _ _ gc 0 a1 Hv6.out (Hcx6.out.cell 0) Hag.out Hk6.out (by omega)).mono ?_
      rintro e W7 ⟨he, q7, g7, c7, hv7, hr7, hge7, hgr7, k, hqk, hlk, hkg, hbk⟩
      subst he hqk
      have hcx7 : Blk W7 gc 9 #[.string a1] := (hgr7.block gc Hcx6.out.lt (by simp; omega)).trans Hcx6.out
      have hgcl := Hcx6.out.lt
      have hor7 : Blk W7 go 31 (strA s2) := (hgr7.block go Hor6.out.lt (by simp; omega)).trans Hor6.out
      have hgol := Hor6.out.lt
      have hgw := Hv6.out.lt
      have hB7 : Below w.heap.size w W7 := HB6.out.trans ⟨hgr7.os, hgr7.tape, hgr7.output, hgr7.size, fun i hi => hgr7.block i (Nat.lt_of_lt_of_le hi HB6.out.size) (by simp; omega)⟩
      obtain ⟨rest, hrow7, -, -⟩ := hr7
      clear hgr7 Hv6 Hcx6 Hor6 HB6 Hk6
      have k2 : W7.cell? ⟨g, 2, none⟩ = some (.pointer (some ⟨k, 0, none⟩)) := hv7.cell 2
      have ck : W7.cell? ⟨k, 0, none⟩ = some (.string a1) := hbk.cell 0
      have fk := hbk.frozen 0
      have cc : W7.cell? ⟨gc, 0, none⟩ = some (.string a1) := hcx7.cell 0
      have fc := hcx7.frozen 0
      have nkg : ¬ k = g := by omega
      have nkg' : ¬ g = k := by omega
      have nkc : ¬ k = gc := by omega
      have nkc' : ¬ gc = k := by omega
      have ngc : ¬ g = gc := by omega
      have ngc' : ¬ gc = g := by omega
      obtain ⟨s1, hs1⟩ : ∃ z, z = a1 ++ (⟨#[33]⟩ : ByteArray) := ⟨_, rfl⟩
      obtain ⟨s3, hs3⟩ : ∃ z, z = a1 ++ (⟨#[63]⟩ : ByteArray) := ⟨_, rfl⟩
      have k3 : W7.cell? ⟨g, 3, none⟩ = some (.slice (some ⟨g7, 0, none⟩) len2 c7) := hv7.cell 3
      go_wp2_with fail
      have HX8 : Hid (Below w.heap.size w ((W7.setCell ⟨k, 0, none⟩ (.string (a1 ++ (⟨#[33]⟩ : ByteArray)))).setCell ⟨gc, 0, none⟩ (.string (a1 ++ (⟨#[63]⟩ : ByteArray)))) ∧ Blk ((W7.setCell ⟨k, 0, none⟩ (.string (a1 ++ (⟨#[33]⟩ : ByteArray)))).setCell ⟨gc, 0, none⟩ (.string (a1 ++ (⟨#[63]⟩ : ByteArray)))) g 41 #[.string ⟨#[120]⟩, .slice none 0 0, .pointer (some ⟨k, 0, none⟩), .slice (some ⟨g7, 0, none⟩) len2 c7, .pointer none, .string ⟨#[]⟩, .int .i64 0, .int .i64 0, .int .i64 0, .int .i64 0] ∧ Blk ((W7.setCell ⟨k, 0, none⟩ (.string (a1 ++ (⟨#[33]⟩ : ByteArray)))).setCell ⟨gc, 0, none⟩ (.string (a1 ++ (⟨#[63]⟩ : ByteArray)))) g7 31 (s2.map Value.string ++ rest).toArray ∧ Blk ((W7.setCell ⟨k, 0, none⟩ (.string (a1 ++ (⟨#[33]⟩ : ByteArray)))).setCell ⟨gc, 0, none⟩ (.string (a1 ++ (⟨#[63]⟩ : ByteArray)))) go 31 (strA s2)) :=
        ⟨below_set (below_set hB7 (show w.heap.size ≤ k by omega) _) (show w.heap.size ≤ gc by omega) _, (hv7.far (p := ⟨k, 0, none⟩) (by simp only; omega) _).far (p := ⟨gc, 0, none⟩) (by simp only; omega) _, (hrow7.far (p := ⟨k, 0, none⟩) (by simp only; omega) _).far (p := ⟨gc, 0, none⟩) (by simp only; omega) _, (hor7.far (p := ⟨k, 0, none⟩) (by simp only; omega) _).far (p := ⟨gc, 0, none⟩) (by simp only; omega) _⟩
      clear hB7 hv7 hrow7 hor7 hbk hcx7 k2 ck fk cc fc nkg nkg' nkc nkc' ngc ngc' hs1 hs3 k3
      generalize ((W7.setCell ⟨k, 0, none⟩ (.string (a1 ++ (⟨#[33]⟩ : ByteArray)))).setCell ⟨gc, 0, none⟩ (.string (a1 ++ (⟨#[63]⟩ : ByteArray)))) = W8 at HX8 ⊢
      obtain ⟨hB8, hv8, hrow8, hor8⟩ := HX8.out
      obtain ⟨ba, oa, x, rfl, hba, hx, hxm, -⟩ := w2.at_ (k := 0) (by omega)
      have hfr := w2.keep hB8
      have e0 : W8.cell? ⟨ba, oa, none⟩ = some (.string x) := by
        obtain ⟨b', o', y, he, -, hy, -, hc⟩ := hfr.at_ (k := 0) (by omega)
        injection he with he; injection he with he1 he2; subst he1 he2
        rw [hx] at hy; injection hy with hy; subst hy
        exact hc
      have hxs : x.size ≤ 1048576 := hshort _ _ (by omega) hx
      have k3 : W8.cell? ⟨g, 3, none⟩ = some (.slice (some ⟨g7, 0, none⟩) len2 c7) := hv8.cell 3
      have p0 : W8.cell? ⟨g7, 0, none⟩ = some (.string x) := by rw [hrow8.cell 0]; exact row_get hx
      have fp0 := hrow8.frozen 0
      have o0 : W8.cell? ⟨go, 0, none⟩ = some (.string x) := by rw [hor8.cell 0]; exact strA_get hx
      go_region
      have HX9 : Hid (Below w.heap.size w (W8.setCell ⟨g7, 0, none⟩ (.string (x ++ (⟨#[33]⟩ : ByteArray)))).drew ∧ Blk (W8.setCell ⟨g7, 0, none⟩ (.string (x ++ (⟨#[33]⟩ : ByteArray)))).drew g 41 #[.string ⟨#[120]⟩, .slice none 0 0, .pointer (some ⟨k, 0, none⟩), .slice (some ⟨g7, 0, none⟩) len2 c7, .pointer none, .string ⟨#[]⟩, .int .i64 0, .int .i64 0, .int .i64 0, .int .i64 0] ∧ Blk (W8.setCell ⟨g7, 0, none⟩ (.string (x ++ (⟨#[33]⟩ : ByteArray)))).drew g7 31 ((s2.map Value.string ++ rest).toArray.setIfInBounds 0 (.string (x ++ (⟨#[33]⟩ : ByteArray)))) ∧ Blk (W8.setCell ⟨g7, 0, none⟩ (.string (x ++ (⟨#[33]⟩ : ByteArray)))).drew go 31 (strA s2)) :=
        ⟨Below.drew (below_set hB8 (show w.heap.size ≤ g7 by omega) _), (hv8.far (p := ⟨g7, 0, none⟩) (by simp only; omega) _).drew, (hrow8.set_ 0 _).drew, (hor8.far (p := ⟨g7, 0, none⟩) (by simp only; omega) _).drew⟩
      clear hB8 hv8 hrow8 hor8 hfr e0 k3 p0 fp0 o0 HX8
      generalize (W8.setCell ⟨g7, 0, none⟩ (.string (x ++ (⟨#[33]⟩ : ByteArray)))).drew = W9 at HX9 ⊢
      obtain ⟨hB9, hv9, hrow9, hor9⟩ := HX9.out
      have hfr := w2.keep hB9
      have e0 : W9.cell? ⟨ba, oa, none⟩ = some (.string x) := by
        obtain ⟨b', o', y, he, -, hy, -, hc⟩ := hfr.at_ (k := 0) (by omega)
        injection he with he; injection he with he1 he2; subst he1 he2
        rw [hx] at hy; injection hy with hy; subst hy
        exact hc
      have o0 : W9.cell? ⟨go, 0, none⟩ = some (.string x) := by rw [hor9.cell 0]; exact strA_get hx
      obtain ⟨L, hL⟩ : ∃ L, len2 = L + 1 := ⟨len2 - 1, by omega⟩
      obtain ⟨b', o', y, he, -, hy, -, ey⟩ := hfr.at_ (k := L) (by omega)
      injection he with he; injection he with he1 he2; subst he1 he2
      have hys : y.size ≤ 1048576 := hshort _ _ (by omega) hy
      have oy : W9.cell? ⟨go, L, none⟩ = some (.string y) := by rw [hor9.cell L]; exact strA_get hy
      have foy := hor9.frozen L
      have HL1 : Hid (len2 = L + 1) := hL
      have tL : ((len2 : Int) - 1).toNat = L := by omega
      have iL : (len2 : Int) - 1 = (L : Int) := by omega
      have hLn : L < len2 := by omega
      have hL0 : ¬ L = 0 := by omega
      clear hL
      go_wp2_with fail
      go_quiet (fail)
      go_wp2_with fail
      have HXA : Hid (Below w.heap.size w ((W9.drewN nq).setCell ⟨go, L, none⟩ (.string (y ++ (⟨#[63]⟩ : ByteArray)))) ∧ Blk ((W9.drewN nq).setCell ⟨go, L, none⟩ (.string (y ++ (⟨#[63]⟩ : ByteArray)))) g 41 #[.string ⟨#[120]⟩, .slice none 0 0, .pointer (some ⟨k, 0, none⟩), .slice (some ⟨g7, 0, none⟩) len2 c7, .pointer none, .string ⟨#[]⟩, .int .i64 0, .int .i64 0, .int .i64 0, .int .i64 0] ∧ Blk ((W9.drewN nq).setCell ⟨go, L, none⟩ (.string (y ++ (⟨#[63]⟩ : ByteArray)))) g7 31 ((s2.map Value.string ++ rest).toArray.setIfInBounds 0 (.string (x ++ (⟨#[33]⟩ : ByteArray))))) :=
        ⟨below_set (below_drewN hB9 _) (show w.heap.size ≤ go by omega) _, (hv9.drewN nq).far (p := ⟨go, L, none⟩) (by simp only; omega) _, (hrow9.drewN nq).far (p := ⟨go, L, none⟩) (by simp only; omega) _⟩
      clear hB9 hv9 hrow9 hor9 hfr e0 o0 HX9 ey oy foy
      generalize ((W9.drewN nq).setCell ⟨go, L, none⟩ (.string (y ++ (⟨#[63]⟩ : ByteArray)))) = W10 at HXA ⊢
      obtain ⟨hBA, hvA, hrowA⟩ := HXA.out
      have hfr := w2.keep hBA
      have k3 : W10.cell? ⟨g, 3, none⟩ = some (.slice (some ⟨g7, 0, none⟩) len2 c7) := hvA.cell 3
      have eL : W10.cell? ⟨ba, oa + L, none⟩ = some (.string y) := by
        obtain ⟨b', o', z, he, -, hz, -, hc⟩ := hfr.at_ (k := L) (by omega)
        injection he with he; injection he with he1 he2; subst he1 he2
        rw [hy] at hz; injection hz with hz; subst hz
        exact hc
      have pL : W10.cell? ⟨g7, L, none⟩ = some (.string y) := by rw [hrowA.cell L]; exact (row_setL hL0 _).trans (row_get hy)
      have g1 : (1 : Int) < (len2 : Int) := by omega
      have g1' : 1 < len2 := by omega
      have g2 : ¬ (len2 : Int) = 1 := by omega
      have g2' : ¬ len2 = 1 := by omega
      go_quiet (fail)
      go_wp2_with fail
      go_quiet (fail)
      go_wp2_with fail
      go_ret
      exact ⟨rfl, below_drewN (below_drewN hBA _) _⟩
end Go.Proofs.Ytmmhdaepejdpmaa.fnCloneNodeBaseDetached
