/- The walk of FnFodderConcatIsFoldOfAppend. -/
import Derived.Test.YtnagdbnfdedejaaFmtFnFodderConcatIsFoldOfAppendB
import Derived.Test.YtnagdbnfdedejaaFmtC55Wrap
import Derived.Test.YtnagdbnfdedejaaFmtCFodConcat
import Derived.Deep.RegionHeld3
namespace Go.Proofs.YtnagdbnfdedejaaFmt.fnFodderConcatIsFoldOfAppend
open Go.ChangeShapes Go.WideShapes Go.ChangeAt Go.RowKit
set_option linter.unusedVariables false

/-- What the appending rounds keep. -/
structure LoopI (w : World) (m p : Nat) (vb got : Value) (lb lg lr : List El) (vr : Value) (wr : World) : Prop where
  bel : Below w.heap.size w wr
  fb : Fodd 9 39 w.heap.size wr vb lb
  gotf : Fodd 9 36 w.heap.size wr got lg
  cell : Blk wr p 28 #[vr]
  r : Fodd 9 36 m wr vr lr
  gl : ∀ g, got.ownBlock = some g → g < m
  pm : w.heap.size ≤ p
  wm : w.heap.size ≤ m
  mw : m ≤ wr.heap.size
theorem LoopI.keep {w wr w' : World} {m p : Nat} {vb got vr : Value} {lb lg lr : List El} (h : LoopI w m p vb got lb lg lr vr wr) (hb : Below wr.heap.size wr w') : LoopI w m p vb got lb lg lr vr w' :=
  ⟨below_trans h.bel hb, h.fb.keep hb, h.gotf.keep hb, h.cell.below hb h.cell.lt, h.r.keep hb, h.gl, h.pm, h.wm, Nat.le_trans h.mw hb.size⟩
theorem LoopI.step {w wr w' : World} {m p : Nat} {vb got vr : Value} {lb lg lr lr' : List El} {e : Ending} (h : LoopI w m p vb got lb lg lr vr wr) (hA : AppPost 9 36 p 0 28 #[vr] vr m lr' wr e w') : ∃ vr', LoopI w m p vb got lb lg lr' vr' w' := by
  obtain ⟨_, v', hB, hF, hFr, hloc⟩ := hA
  refine ⟨v', ?_, h.fb.fr_other hFr (by decide) (by decide) (ne_p h.cell (by decide)) (ne_p h.cell (by decide)), h.gotf.fr_row hFr (by decide) (ne_p h.cell (by decide)) (ne_p h.cell (by decide)) (fun g hg e => ?_), by simpa using hB, hF, h.gl, h.pm, h.wm, Nat.le_trans h.mw hFr.size⟩
  · refine below_fr h.bel hFr h.bel.size (fun g hg => ?_) (fun g hg => ?_)
    · injection hg with hg; rw [← hg]; exact h.pm
    · exact Nat.le_trans h.wm (h.r.lt hg).1
  · have h1 := h.gl g hg
    have h2 := (h.r.lt e.symm).1
    omega
theorem fold_take {la lb : List El} {k : Nat} {x : El} (h : lb[k]? = some x) : app ((lb.take k).foldl app la) x = (lb.take (k + 1)).foldl app la := by
  rw [List.take_add_one, h]
  simp
theorem fold_len (la r : List El) : (r.foldl app la).length ≤ la.length + 2 * r.length := by
  induction r generalizing la with
  | nil => simp
  | cons x r ih =>
    have h1 := ih (app la x)
    have h2 := len_app la x
    rw [List.foldl_cons, List.length_cons]
    omega
theorem fold_sh {la r : List El} (ha : Sh la) (hr : Sh r) : Sh (r.foldl app la) := by
  induction r generalizing la with
  | nil => exact ha
  | cons x r ih => exact ih (ha.app (hr x (by simp))) (fun y hy => hr y (by simp [hy]))

set_option maxRecDepth 20000 in
set_option maxHeartbeats 3200000 in
theorem walk (a0 : Option Addr) (len0 cap0 : Nat) (s0 : List FEl) (a1 : Option Addr) (len1 cap1 : Nat) (s1 : List FEl) (w : World) (w0 : IsFEs w a0 len0 cap0 s0) (w1 : IsFEs w a1 len1 cap1 s1) :
    Calls Tryf.prog 3 #[.slice a0 len0 cap0, .slice a1 len1 cap1] w fun e w' => e = .returned (.bool true) ∧ Below w.heap.size w w' := by
  go_enter Tryf.func3, Tryf.ntmps3
  go_wp2_with fail
  refine (bytes_any _ _ _ _ _ _ _ _ _ w0 w1).mono ?_
  rintro e w' ⟨r, rfl, hr, rfl⟩
  cases r
  · go_wp2_with fail
    go_ret
    exact ⟨rfl, Below.refl _ _⟩
  obtain ⟨hl0, hup0, hl1, hup1⟩ := hr rfl
  clear hr
  have Hup0 := Lib.hid hup0
  have Hup1 := Lib.hid hup1
  have Hs0 := Lib.hid (sh_of_upto w0 hup0)
  have Hs1 := Lib.hid (sh_of_upto w1 hup1)
  have Hl0 : Hid ((s0.map FEl.el).length = len0) := by simp [Hid, w0.len]
  have Hl1 : Hid ((s1.map FEl.el).length = len1) := by simp [Hid, w1.len]
  clear hup0 hup1
  go_wp2_with fail
  refine (fesBytes_any _ _ _ s0 _ w0).mono ?_
  rintro e w2 ⟨m2, rfl, hm2, hm2', hb2⟩
  have hi2 := w1.keep hb2
  go_wp2_with fail
  refine (fesBytes_any _ _ _ s1 _ hi2).mono ?_
  rintro e w3 ⟨m3, rfl, hm3, hm3', hb3⟩
  have hB3 := below_trans hb2 hb3
  clear hb2 hb3 hi2
  go_wp2_with fail
  all_goals try (go_ret; exact ⟨rfl, hB3⟩)
  refine (wellOrdered_any _ _ _ s1 _ (w1.keep hB3)).mono ?_
  rintro e w4 ⟨r, rfl, hr, hb4⟩
  have Hr := Lib.hid hr
  have hB4 := below_trans hB3 hb4
  clear hr hB3 hb4
  cases r
  · go_wp2_with fail
    go_ret
    exact ⟨rfl, hB4⟩
  have Hwo := Lib.hid (Hr.out.1 rfl)
  clear Hr hm2 hm2' hm3 hm3'
  go_wp2_with fail
  refine (cloneFEs_any _ _ _ s0 _ (w0.keep hB4) hl0 Hup0.out).mono ?_
  rintro e w5 ⟨va, rfl, hva, hb5⟩
  have hB5 := below_trans hB4 hb5
  replace hva := hva.weaken hB4.size
  clear hb5 hB4
  go_wp2_with fail
  refine (cloneFEs_any _ _ _ s1 _ (w1.keep hB5) hl1 Hup1.out).mono ?_
  rintro e w6 ⟨vb, rfl, hvb, hb6⟩
  replace hvb := hvb.weaken hB5.size
  replace hva := hva.keep hb6
  have hB6 := below_trans hB5 hb6
  clear hb6 hB5 w0 w1 Hup0 Hup1
  go_wp2_with fail
  refine (toFodder_fod hva (by rw [Hl0.out]; exact hl0) Hs0.out).mono ?_
  rintro e w7 ⟨fa, rfl, hfa, hb7⟩
  replace hva := hva.keep hb7
  replace hvb := hvb.keep hb7
  have hB7 := below_trans hB6 hb7
  have Hrow7 : Hid (∀ g, fa.ownBlock = some g → g < w7.heap.size) := fun g hg => (hfa.lt hg).2
  replace hfa := hfa.weaken hB6.size
  clear hb7 hB6
  go_wp2_with fail
  refine (toFodder_fod hvb (by rw [Hl1.out]; exact hl1) Hs1.out).mono ?_
  rintro e w8 ⟨fb, rfl, hfb, hb8⟩
  replace hva := hva.keep hb8
  replace hvb := hvb.keep hb8
  replace hfa := hfa.keep hb8
  have hB8 := below_trans hB7 hb8
  have Hne : Hid (∀ g, fb.ownBlock = some g → fa.ownBlock ≠ some g) := fun g hg e => by have h1 := (hfb.lt hg).1; have h2 := Hrow7.out g e; omega
  replace hfb := hfb.weaken hB7.size
  clear hb8 hB7 Hrow7
  go_wp2_with fail
  refine (concat_any fa fb _ _ w.heap.size _ hfa hfb Hne.out (by rw [Hl0.out, Hl1.out]; omega) hB8.size).mono ?_
  rintro e w9 ⟨got, rfl, hgot, hFr9, hloc9⟩
  replace hva := hva.fr_other hFr9 (by decide) (by decide) ne_none ne_none
  replace hvb := hvb.fr_other hFr9 (by decide) (by decide) ne_none ne_none
  have hB9 := below_fr hB8 hFr9 hB8.size (fun g hg => by cases hg) (fun g hg => (hfa.lt hg).1)
  have Hgl : Hid (∀ g, got.ownBlock = some g → g < w9.heap.size) := fun g hg => (hgot.lt hg).2
  clear hfa hfb Hne hFr9 hloc9 hB8
  go_wp2_with fail
  refine (toFodder_fod hva (by rw [Hl0.out]; exact hl0) Hs0.out).mono ?_
  rintro e w10 ⟨vr, rfl, hvr, hb10⟩
  obtain ⟨ar, nr, cr, rfl⟩ := hvr.slice
  obtain ⟨ab, capb, fsb, rfl, hIb, hmapb, hformb, helb⟩ := hvb.form
  obtain ⟨n, hn⟩ : ∃ n, n = (s1.map FEl.el).length := ⟨_, rfl⟩
  have hn1 : n ≤ 1048576 := by rw [hn, Hl1.out]; exact hl1
  rw [← hn] at hvb hIb ⊢
  have hba : Below w10.heap.size w10 (w10.alloc (.cells #[Value.slice ar nr cr] 28)) := below_alloc (Below.refl _ _) _
  have HI0 : Hid (LoopI w w9.heap.size w10.heap.size (.slice ab n capb) got (s1.map FEl.el) (cat (s0.map FEl.el) (s1.map FEl.el)) (s0.map FEl.el) (.slice ar nr cr) (w10.alloc (.cells #[Value.slice ar nr cr] 28))) :=
    ⟨below_alloc (below_trans hB9 hb10) _, (hvb.keep hb10).keep hba, (hgot.keep hb10).keep hba, Blk.new _ _ _, hvr.keep hba, Hgl.out, (below_trans hB9 hb10).size, hB9.size, by have := hb10.size; simp; omega⟩
  have Hn := Lib.hid hn
  clear hva hvb hgot hvr hb10 hB9 Hgl hIb hmapb hformb helb hba hn
  go_wp2_with fail
  go_loopw [7] (fun i wr => ∃ (k : Nat) (vr : Value), k ≤ n ∧ i = .int .i64 k ∧ Hid (LoopI w w9.heap.size w10.heap.size (.slice ab n capb) got (s1.map FEl.el) (cat (s0.map FEl.el) (s1.map FEl.el)) (((s1.map FEl.el).take k).foldl app (s0.map FEl.el)) vr wr)) (fun i _ => n - (intOf i).toNat)
  case atStart => exact ⟨0, _, Nat.zero_le _, rfl, by simpa using HI0⟩
  case round =>
    clear HI0
    obtain ⟨k, vr, hk, rfl, hI⟩ := hrel
    by_cases hlt : k < n
    · obtain ⟨a', cap', fs', hv', hI', hmap', _, _⟩ := hI.out.fb.form
      rw [← Hn.out] at hI' hv'
      injection hv' with hv1 hv2 hv3
      subst hv1
      obtain ⟨b, off, x, rfl, hblt, hx, hfe, c0, c1, c2, c3⟩ := hI'.at_ hlt
      have Hx : Hid ((s1.map FEl.el)[k]? = some x.el) := by have := el_at hx; rw [hmap'] at this; exact this
      have hxl : x.clen ≤ 1048576 := by
        have h1 := Hs1.out x.el (List.mem_of_getElem? Hx.out)
        have h2 := hfe.strs.len
        have h3 : x.el.cs.length = x.cs.length := rfl
        omega
      clear hx hmap' hI' hv2 hv3
      go_wp2_with fail
      refine (toElem_any x _ hfe hxl).mono ?_
      rintro e w2' ⟨y, rfl, hy, hyx, hb⟩
      have HI2 := Lib.hid (hI.out.keep hb)
      have Hyx := Lib.hid hyx
      clear hI hb hfe c0 c1 c2 c3 hyx
      have hlen : (((s1.map FEl.el).take k).foldl app (s0.map FEl.el)).length ≤ 4194302 := by
        have h1 := fold_len (s0.map FEl.el) ((s1.map FEl.el).take k)
        have h2 := List.length_take_le k (s1.map FEl.el)
        rw [Hl0.out] at h1
        omega
      go_wp2_with fail
      refine (append_any w10.heap.size 0 28 #[vr] vr _ y w9.heap.size _ HI2.out.cell rfl (by decide) (by decide) HI2.out.r hy hlen HI2.out.mw).mono ?_
      rintro e w3' hA
      obtain ⟨v3, hI3⟩ := HI2.out.step hA
      obtain ⟨he, -⟩ := hA
      subst he
      rw [Hyx.out, fold_take Hx.out] at hI3
      have HI3 := Lib.hid hI3
      clear hI3 HI2 hy hlen hxl
      go_wp2
      exact ⟨⟨k + 1, v3, by omega, by go_num, HI3⟩, by simp [intOf]; omega⟩
    · obtain rfl : k = n := by omega
      have hfin : ((s1.map FEl.el).take k).foldl app (s0.map FEl.el) = cat (s0.map FEl.el) (s1.map FEl.el) := by
        rw [List.take_of_length_le (by rw [Hn.out]; exact Nat.le_refl _), cat_fold _ _ Hwo.out]
      rw [hfin] at hI
      have hlenc : (cat (s0.map FEl.el) (s1.map FEl.el)).length ≤ 4194304 := by
        have h1 := len_cat_le (s0.map FEl.el) (s1.map FEl.el)
        rw [Hl0.out, Hl1.out] at h1
        omega
      have hshc : Sh (cat (s0.map FEl.el) (s1.map FEl.el)) := Hs0.out.cat Hs1.out
      obtain ⟨ag, ng, cg, rfl⟩ := hI.out.gotf.slice
      obtain ⟨av, nv, cv, rfl⟩ := hI.out.r.slice
      have cc : wr.cell? ⟨w10.heap.size, 0, none⟩ = some (.slice av nv cv) := hI.out.cell.cell 0
      have Hlenc := Lib.hid hlenc
      have Hshc := Lib.hid hshc
      clear hfin hlenc hshc
      go_wp2_with fail
      go_region_held3 (fun w' => w'.cell? ⟨w10.heap.size, 0, none⟩ = some (.slice av nv cv)) (first | exact cc | exact cell_later hbr (cell_later hbg cc) | exact cell_later hbg (cell_later hbr cc) | exact cell_later hbg cc | exact cell_later hbr cc | exact cell_later hbs (by assumption) | assumption | go_keep) (first
        | (go_at_call_of 18 (Value.slice ag ng cg); refine (fromFodder_fod (base := w.heap.size) (T := 36) (by first | exact hI.out.gotf.keep (Below.drew (Below.refl _ _)) | exact (hI.out.gotf.keep (Below.drew (Below.refl _ _))).keep hbr) Hlenc.out Hshc.out).mono ?_; rintro e wg ⟨vg, rfl, hvg, hbg⟩)
        | (go_at_call_of 18 (Value.slice av nv cv); refine (fromFodder_fod (base := w9.heap.size) (T := 36) (by first | exact hI.out.r.keep (Below.drew (Below.refl _ _)) | exact (hI.out.r.keep (Below.drew (Below.refl _ _))).keep hbg) Hlenc.out Hshc.out).mono ?_; rintro e wf ⟨vf, rfl, hvf, hbr⟩)
        | (go_at_call 17; refine (sameFEs_fod (by first | exact hvg | exact hvg.keep hbr) (by first | exact hvf | exact hvf.keep hbg)).mono ?_; rintro e ws ⟨rfl, hbs⟩))
      all_goals
        go_wp2_with fail
        go_ret
        refine ⟨rfl, below_trans ?_ hbs⟩
        first
          | exact below_trans (below_trans (Below.drew hI.out.bel) hbg) hbr
          | exact below_trans (below_trans (Below.drew hI.out.bel) hbr) hbg
end Go.Proofs.YtnagdbnfdedejaaFmt.fnFodderConcatIsFoldOfAppend
