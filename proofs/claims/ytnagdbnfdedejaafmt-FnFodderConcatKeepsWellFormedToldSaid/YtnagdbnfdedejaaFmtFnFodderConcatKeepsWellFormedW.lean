/- The walk of FnFodderConcatKeepsWellFormed. (Written by wip/gen55w.py.) -/
import Derived.Test.YtnagdbnfdedejaaFmtFnFodderConcatKeepsWellFormedB
import Derived.Test.YtnagdbnfdedejaaFmtC55Wrap
import Derived.Test.YtnagdbnfdedejaaFmtC55Flat
import Derived.Test.YtnagdbnfdedejaaFmtCFodConcat
import Derived.Deep.RegionHeld3
import Derived.IntWalk
namespace Go.Proofs.YtnagdbnfdedejaaFmt.fnFodderConcatKeepsWellFormed
open Go.ChangeShapes Go.WideShapes Go.ChangeAt Go.RowKit
set_option linter.unusedVariables false

set_option maxRecDepth 20000 in
set_option maxHeartbeats 3200000 in
theorem walk (a0 : Option Addr) (len0 cap0 : Nat) (s0 : List FEl) (a1 : Option Addr) (len1 cap1 : Nat) (s1 : List FEl) (w : World) (w0 : IsFEs w a0 len0 cap0 s0) (w1 : IsFEs w a1 len1 cap1 s1) :
    Calls Tryf.prog 8 #[.slice a0 len0 cap0, .slice a1 len1 cap1] w fun e w' => e = .returned (.bool true) ∧ Below w.heap.size w w' := by
  go_enter Tryf.func8, Tryf.ntmps8
  go_wp2_with fail
  refine (bytes_any _ _ _ _ _ _ _ _ _ w0 w1).mono ?_
  rintro e w' ⟨r, rfl, hr, rfl⟩
  cases r
  · go_wp2_with fail
    go_ret
    exact ⟨rfl, Below.refl _ _⟩
  obtain ⟨hl0, hup0, hl1, hup1⟩ := hr rfl
  clear hr
  have Hup0 := Lib.hid hup0
  have Hs0 := Lib.hid (sh_of_upto w0 hup0)
  have Hl0 : Hid ((s0.map FEl.el).length = len0) := by simp [Hid, w0.len]
  clear hup0
  have Hup1 := Lib.hid hup1
  have Hs1 := Lib.hid (sh_of_upto w1 hup1)
  have Hl1 : Hid ((s1.map FEl.el).length = len1) := by simp [Hid, w1.len]
  clear hup1
  have hB : Below w.heap.size w w := Below.refl _ _
  go_wp2_with fail
  refine (fesBytes_any _ _ _ s0 _ (w0.keep hB)).mono ?_
  rintro e ww ⟨mm0, rfl, hm0, hm0', hb⟩
  replace hB := below_trans hB hb
  clear hb
  go_wp2_with fail
  refine (fesBytes_any _ _ _ s1 _ (w1.keep hB)).mono ?_
  rintro e ww ⟨mm1, rfl, hm1, hm1', hb⟩
  replace hB := below_trans hB hb
  clear hb
  go_wp2_with fail
  all_goals try (go_ret; exact ⟨rfl, hB⟩)
  refine (wellFormed_any _ _ _ s0 _ (w0.keep hB)).mono ?_
  rintro e ww ⟨r, rfl, hr, hb⟩
  have Hr := Lib.hid hr
  replace hB := below_trans hB hb
  clear hr hb
  cases r
  · go_wp2_with fail
    all_goals (go_ret; exact ⟨rfl, hB⟩)
  have Hw0 := Lib.hid (Hr.out.1 rfl)
  clear Hr
  go_wp2_with fail
  refine (wellFormed_any _ _ _ s1 _ (w1.keep hB)).mono ?_
  rintro e ww ⟨r, rfl, hr, hb⟩
  have Hr := Lib.hid hr
  replace hB := below_trans hB hb
  clear hr hb
  cases r
  · go_wp2_with fail
    all_goals (go_ret; exact ⟨rfl, hB⟩)
  have Hw1 := Lib.hid (Hr.out.1 rfl)
  clear Hr
  go_wp2_with fail
  clear hm0 hm0' hm1 hm1'
  refine (cloneFEs_any _ _ _ s0 _ (w0.keep hB) hl0 Hup0.out).mono ?_
  rintro e ww ⟨v0, rfl, hv0, hb⟩
  replace hv0 := hv0.weaken hB.size
  replace hB := below_trans hB hb
  clear hb
  go_wp2_with fail
  refine (cloneFEs_any _ _ _ s1 _ (w1.keep hB) hl1 Hup1.out).mono ?_
  rintro e ww ⟨v1, rfl, hv1, hb⟩
  replace hv1 := hv1.weaken hB.size
  replace hv0 := hv0.keep hb
  replace hB := below_trans hB hb
  clear hb
  go_wp2_with fail
  clear w0 w1 Hup0 Hup1
  refine (toFodder_fod hv0 (by rw [Hl0.out]; exact hl0) Hs0.out).mono ?_
  rintro e W1 ⟨fa, rfl, hfa, hb⟩
  have Hrow : Hid (∀ g, fa.ownBlock = some g → g < W1.heap.size) := fun g hg => (hfa.lt hg).2
  replace hv0 := hv0.keep hb
  replace hv1 := hv1.keep hb
  replace hfa := hfa.weaken hB.size
  replace hB := below_trans hB hb
  clear hb
  go_wp2_with fail
  refine (toFodder_fod hv1 (by rw [Hl1.out]; exact hl1) Hs1.out).mono ?_
  rintro e W2 ⟨fb, rfl, hfb, hb⟩
  have Hne : Hid (∀ g, fb.ownBlock = some g → fa.ownBlock ≠ some g) := fun g hg e => by have h1 := (hfb.lt hg).1; have h2 := Hrow.out g e; omega
  replace hv0 := hv0.keep hb
  replace hv1 := hv1.keep hb
  replace hfa := hfa.keep hb
  replace hfb := hfb.weaken hB.size
  replace hB := below_trans hB hb
  clear hb Hrow
  go_wp2_with fail
  refine (concat_any fa fb _ _ w.heap.size _ hfa hfb Hne.out (by rw [Hl0.out, Hl1.out]; omega) hB.size).mono ?_
  rintro e W3 ⟨g3, rfl, hg3, hFr, -⟩
  replace hv0 := hv0.fr_other hFr (by decide) (by decide) ne_none ne_none
  replace hv1 := hv1.fr_other hFr (by decide) (by decide) ne_none ne_none
  replace hB := below_fr hB hFr hB.size (fun g hg => by cases hg) (fun g hg => (hfa.lt hg).1)
  clear hfa hfb Hne hFr
  have Hlenc : Hid ((cat (s0.map FEl.el) (s1.map FEl.el)).length ≤ 2097153) := by
    have h1 := len_cat_le (s0.map FEl.el) (s1.map FEl.el)
    rw [Hl0.out, Hl1.out] at h1
    simp only [Hid]
    omega
  have Hshc : Hid (Sh (cat (s0.map FEl.el) (s1.map FEl.el))) := Hs0.out.cat Hs1.out
  go_wp2_with fail
  refine (fromFodder_fod hg3 (by have := Hlenc.out; omega) Hshc.out).mono ?_
  rintro e W4 ⟨got, rfl, hgot, hb⟩
  replace hv0 := hv0.keep hb
  replace hv1 := hv1.keep hb
  replace hgot := hgot.weaken hB.size
  replace hB := below_trans hB hb
  clear hb hg3
  go_wp2_with fail
  refine (wellFormed_fod hgot).mono ?_
  rintro e W5 ⟨r, rfl, hr, hb⟩
  obtain rfl : r = true := hr.2 (wf_cat Hw0.out Hw1.out)
  replace hv0 := hv0.keep hb
  replace hv1 := hv1.keep hb
  replace hgot := hgot.keep hb
  replace hB := below_trans hB hb
  clear hb hr
  go_wp2_with fail
  refine (flatten_fod hgot (by have := Hlenc.out; omega) Hshc.out).mono ?_
  rintro e W6 ⟨x1, rfl, hx1, hb⟩
  replace hv0 := hv0.keep hb
  replace hv1 := hv1.keep hb
  replace hgot := hgot.keep hb
  replace hB := below_trans hB hb
  clear hb
  go_wp2_with fail
  refine (flatten_fod hv0 (by rw [Hl0.out]; omega) Hs0.out).mono ?_
  rintro e W7 ⟨x2, rfl, hx2, hb⟩
  replace hv0 := hv0.keep hb
  replace hv1 := hv1.keep hb
  replace hgot := hgot.keep hb
  replace hx1 := hx1.keep hb
  replace hB := below_trans hB hb
  clear hb
  go_wp2_with fail
  refine (flatten_fod hv1 (by rw [Hl1.out]; omega) Hs1.out).mono ?_
  rintro e W8 ⟨x3, rfl, hx3, hb⟩
  replace hv0 := hv0.keep hb
  replace hv1 := hv1.keep hb
  replace hgot := hgot.keep hb
  replace hx1 := hx1.keep hb
  replace hx2 := hx2.keep hb
  replace hB := below_trans hB hb
  clear hb
  have Hf0 : Hid ((flat (s0.map FEl.el)).length ≤ 2199023255552) := by
    have h1 := flat_len Hs0.out
    rw [Hl0.out] at h1
    have h2 : len0 * 1048576 ≤ 1048576 * 1048576 := Nat.mul_le_mul_right _ hl0
    simp only [Hid]
    omega
  have Hf1 : Hid ((flat (s1.map FEl.el)).length ≤ 2199023255552) := by
    have h1 := flat_len Hs1.out
    rw [Hl1.out] at h1
    have h2 : len1 * 1048576 ≤ 1048576 * 1048576 := Nat.mul_le_mul_right _ hl1
    simp only [Hid]
    omega
  go_wp2_with fail
  refine (joinStrings_r hx2 hx3 Hf0.out Hf1.out).mono ?_
  rintro e W9 ⟨x4, rfl, hx4, hb⟩
  replace hv0 := hv0.keep hb
  replace hv1 := hv1.keep hb
  replace hgot := hgot.keep hb
  replace hx1 := hx1.keep hb
  replace hB := below_trans hB hb
  clear hb hx2 hx3 Hf0 Hf1
  rw [← flat_cat] at hx4
  go_wp2_with fail
  refine (sameStrings_r hx1 hx4).mono ?_
  rintro e W10 ⟨rfl, hb⟩
  replace hv0 := hv0.keep hb
  replace hv1 := hv1.keep hb
  replace hgot := hgot.keep hb
  replace hB := below_trans hB hb
  clear hb hx1 hx4
  obtain ⟨n0, hn0⟩ : ∃ n, n = (s0.map FEl.el).length := ⟨_, rfl⟩
  obtain ⟨n1, hn1⟩ : ∃ n, n = (s1.map FEl.el).length := ⟨_, rfl⟩
  have hb0 : n0 ≤ 1048576 := by rw [hn0, Hl0.out]; exact hl0
  have hb1 : n1 ≤ 1048576 := by rw [hn1, Hl1.out]; exact hl1
  clear Hs0 Hs1 Hl0 Hl1 Hw0 Hw1 hl0 hl1 Hshc
  generalize s0.map FEl.el = la at *
  generalize s1.map FEl.el = lb at *
  rcases Nat.eq_zero_or_pos n0 with hz0 | hz0
  · obtain rfl : la = [] := List.eq_nil_of_length_eq_zero (by omega)
    rw [nil_cat] at hgot
    obtain ⟨aa, ca, fsa, rfl, -⟩ := hv0.form
    have hgot' := hgot
    clear hn0 hn1 hz0 Hlenc
    simp only [List.length_nil]
    go_wp2_with fail
    refine (sameFEs_fod hgot' hv1).mono ?_
    rintro e W11 ⟨rfl, hb⟩
    go_wp2_with fail
    go_ret
    exact ⟨rfl, below_trans hB hb⟩
  rcases Nat.eq_zero_or_pos n1 with hz1 | hz1
  · obtain rfl : lb = [] := List.eq_nil_of_length_eq_zero (by omega)
    rw [cat_nil] at hgot
    obtain ⟨aa, ca, fsa, hva, -⟩ := hv0.form
    obtain ⟨ab, cb, fsb, rfl, -⟩ := hv1.form
    rw [← hn0] at hva
    have Hv0 := Lib.hid hv0
    have Hgot := Lib.hid hgot
    have z1 : ((n0 : Int) == 0) = false := by simp; omega
    have z2 : ¬ n0 = 0 := by omega
    clear hn0 hn1 hz1 Hlenc hv0 hgot
    subst hva
    simp only [List.length_nil]
    go_wp2_with fail
    refine (sameFEs_fod Hgot.out Hv0.out).mono ?_
    rintro e W11 ⟨rfl, hb⟩
    go_wp2_with fail
    go_ret
    exact ⟨rfl, below_trans hB hb⟩
  have ha : la ≠ [] := by rintro rfl; simp at hn0; omega
  have hbn : lb ≠ [] := by rintro rfl; simp at hn1; omega
  have hlc := len_cat ha hbn
  have Hgl : Hid (∀ i, i + 1 < n0 → (cat la lb)[i]? = la[i]?) := fun i hi => get_cat_left (by rw [← hn0]; exact hi)
  obtain ⟨ng, hng⟩ : ∃ n, n = (cat la lb).length := ⟨_, rfl⟩
  rw [← hng] at hlc Hlenc
  rw [← hn0, ← hn1] at hlc
  obtain ⟨d, hd⟩ : ∃ d, ng = d + n1 := ⟨ng - n1, by omega⟩
  have Hgr : Hid (∀ j, 1 ≤ j → j < n1 → (cat la lb)[d + j]? = lb[j]?) := fun j h1 h2 => by
    have h := get_cat_right (b := lb) ha h1 (by rw [← hn1]; exact h2)
    rw [← hng, ← hn1, hd, Nat.add_sub_cancel] at h
    exact h
  obtain ⟨aa, capa, fsa, rfl, hIa, hma, -, -⟩ := hv0.form
  obtain ⟨ab, capb, fsb, rfl, hIb, hmb, -, -⟩ := hv1.form
  obtain ⟨ag, capg, fsg, rfl, hIg, hmg, -, -⟩ := hgot.form
  rw [← hn0] at hIa ⊢
  rw [← hn1] at hIb ⊢
  rw [← hng] at hIg ⊢
  have HIa := Lib.hid hIa
  have HIb := Lib.hid hIb
  have HIg := Lib.hid hIg
  have Hma := Lib.hid hma
  have Hmb := Lib.hid hmb
  have Hmg := Lib.hid hmg
  have hng2 : ng ≤ 2097153 := Hlenc.out
  have HW := Lib.hid hB
  have g1 : n0 + n1 ≤ ng + 1 := hlc.1
  have g2 : ng ≤ n0 + n1 + 1 := hlc.2
  have Hd := Lib.hid hd
  have hdn : d ≤ 2097153 := by omega
  have hdg : d + n1 ≤ ng := by omega
  clear hn0 hn1 hng hlc ha hbn hv0 hv1 hgot hIa hIb hIg hma hmb hmg hB Hlenc hd
  have z0 : ((n0 : Int) == 0) = false := by simp; omega
  have z1 : ((n1 : Int) == 0) = false := by simp; omega
  have z2 : ¬ n0 = 0 := by omega
  have z3 : ¬ n1 = 0 := by omega
  have g3 : ¬ (ng : Int) < (n0 : Int) + (n1 : Int) - 1 := by omega
  have g4 : ¬ (n0 : Int) + (n1 : Int) + 1 < (ng : Int) := by omega
  go_wp2_with fail
  go_loopw [7] (fun i wr => ∃ k : Nat, k ≤ n0 ∧ i = .int .i64 k ∧ Hid (Below W10.heap.size W10 wr)) (fun i _ => n0 - (intOf i).toNat)
  case atStart => exact ⟨0, Nat.zero_le _, rfl, Below.refl _ _⟩
  case round =>
    obtain ⟨k, hk, rfl, hW⟩ := hrel
    by_cases hlt : k + 1 < n0
    · obtain ⟨bx, ox, x, rfl, hbx, hx, hfx, x0, x1, x2, x3⟩ := (HIg.out.keep hW.out).at_ (show k < ng by omega)
      obtain ⟨by', oy, y, rfl, hby, hy, hfy, y0, y1, y2, y3⟩ := (HIa.out.keep hW.out).at_ (show k < n0 by omega)
      have Hxy : Hid (Alike x y) := by
        have h1 := el_at hx
        have h2 := el_at hy
        rw [Hmg.out, Hgl.out k hlt, ← Hma.out, h2] at h1
        exact alike_el (Option.some.inj h1).symm
      have i0 : (0 : Int) ≤ (k : Int) := by omega
      have i1 : (k : Int) < (ng : Int) := by omega
      have i2 : (k : Int) < (n0 : Int) := by omega
      have i3 : (k : Int) + 1 < (n0 : Int) := by omega
      clear hx hy
      go_wp2_with fail
      go_region_held3 (fun w' => w'.cell? ⟨bx, ox + k * 4, none⟩ = some (.slice x.ca x.clen x.ccap) ∧ w'.cell? ⟨bx, ox + k * 4 + 1, none⟩ = some (.int .i64 x.kind) ∧ w'.cell? ⟨bx, ox + k * 4 + 2, none⟩ = some (.int .i64 x.blanks) ∧ w'.cell? ⟨bx, ox + k * 4 + 3, none⟩ = some (.int .i64 x.indent) ∧ w'.cell? ⟨by', oy + k * 4, none⟩ = some (.slice y.ca y.clen y.ccap) ∧ w'.cell? ⟨by', oy + k * 4 + 1, none⟩ = some (.int .i64 y.kind) ∧ w'.cell? ⟨by', oy + k * 4 + 2, none⟩ = some (.int .i64 y.blanks) ∧ w'.cell? ⟨by', oy + k * 4 + 3, none⟩ = some (.int .i64 y.indent)) (first | exact ⟨x0, x1, x2, x3, y0, y1, y2, y3⟩ | (go_split_ands; exact ⟨cell_later hb2 (by assumption), cell_later hb2 (by assumption), cell_later hb2 (by assumption), cell_later hb2 (by assumption), cell_later hb2 (by assumption), cell_later hb2 (by assumption), cell_later hb2 (by assumption), cell_later hb2 (by assumption)⟩) | assumption) (first | (go_at_call 29; refine (sameFE_yes x y _ (hfx.keep (Below.drew (Below.refl _ _))) (hfy.keep (Below.drew (Below.refl _ _))) Hxy.out).mono ?_; rintro e w2 ⟨rfl, hb2⟩))
      rename_i hheld
      clear hheld
      have HW2 : Hid (Below W10.heap.size W10 w2) := below_trans (Below.drew hW.out) hb2
      clear hfx hfy x0 x1 x2 x3 y0 y1 y2 y3 hW hb2
      go_wp2_with fail
      exact ⟨⟨k + 1, by omega, by go_num, HW2⟩, by simp [intOf]; omega⟩
    · have i3 : ¬ (k : Int) + 1 < (n0 : Int) := by omega
      go_wp2_with fail
      go_loopw [8] (fun i wr => ∃ j : Nat, 1 ≤ j ∧ j ≤ n1 ∧ i = .int .i64 j ∧ Hid (Below W10.heap.size W10 wr)) (fun i _ => n1 - (intOf i).toNat)
      case atStart => exact ⟨1, Nat.le_refl _, hz1, rfl, hW⟩
      case round =>
        clear hW
        obtain ⟨j, hj1, hj, rfl, hW⟩ := hrel
        by_cases hlt2 : j < n1
        · obtain ⟨bx, ox, x, rfl, hbx, hx, hfx, x0, x1, x2, x3⟩ := (HIg.out.keep hW.out).at_ (show d + j < ng by omega)
          obtain ⟨by', oy, y, rfl, hby, hy, hfy, y0, y1, y2, y3⟩ := (HIb.out.keep hW.out).at_ (show j < n1 by omega)
          have Hxy : Hid (Alike x y) := by
            have h1 := el_at hx
            have h2 := el_at hy
            rw [Hmg.out, Hgr.out j hj1 hlt2, ← Hmb.out, h2] at h1
            exact alike_el (Option.some.inj h1).symm
          obtain ⟨t, ht⟩ : ∃ t, t = d + j := ⟨_, rfl⟩
          rw [← ht] at x0 x1 x2 x3
          have i0 : (0 : Int) ≤ (j : Int) := by omega
          have i1 : (j : Int) < (n1 : Int) := by omega
          have i4 : (0 : Int) ≤ (t : Int) := by omega
          have i5 : (t : Int) < (ng : Int) := by omega
          have i6 : t < ng := by omega
          have e1 : IntKind.i64.wrap ((ng : Int) - (n1 : Int)) = (d : Int) := by rw [IntWalk.i64_in _ (by omega)]; have := Hd.out; omega
          have e2 : IntKind.i64.wrap ((d : Int) + (j : Int)) = (t : Int) := by rw [IntWalk.i64_in _ (by omega)]; omega
          have E1 := Lib.hid e1
          have E2 := Lib.hid e2
          clear hx hy e1 e2 ht
          go_wp2_with fail
          have e1 := E1.out
          have e2 := E2.out
          go_region_held3 (fun w' => w'.cell? ⟨bx, ox + t * 4, none⟩ = some (.slice x.ca x.clen x.ccap) ∧ w'.cell? ⟨bx, ox + t * 4 + 1, none⟩ = some (.int .i64 x.kind) ∧ w'.cell? ⟨bx, ox + t * 4 + 2, none⟩ = some (.int .i64 x.blanks) ∧ w'.cell? ⟨bx, ox + t * 4 + 3, none⟩ = some (.int .i64 x.indent) ∧ w'.cell? ⟨by', oy + j * 4, none⟩ = some (.slice y.ca y.clen y.ccap) ∧ w'.cell? ⟨by', oy + j * 4 + 1, none⟩ = some (.int .i64 y.kind) ∧ w'.cell? ⟨by', oy + j * 4 + 2, none⟩ = some (.int .i64 y.blanks) ∧ w'.cell? ⟨by', oy + j * 4 + 3, none⟩ = some (.int .i64 y.indent)) (first | exact ⟨x0, x1, x2, x3, y0, y1, y2, y3⟩ | (go_split_ands; exact ⟨cell_later hb2 (by assumption), cell_later hb2 (by assumption), cell_later hb2 (by assumption), cell_later hb2 (by assumption), cell_later hb2 (by assumption), cell_later hb2 (by assumption), cell_later hb2 (by assumption), cell_later hb2 (by assumption)⟩) | assumption) (first | (go_at_call 29; refine (sameFE_yes x y _ (hfx.keep (Below.drew (Below.refl _ _))) (hfy.keep (Below.drew (Below.refl _ _))) Hxy.out).mono ?_; rintro e w2 ⟨rfl, hb2⟩))
          rename_i hheld
          clear hheld e1 e2
          have HW2 : Hid (Below W10.heap.size W10 w2) := below_trans (Below.drew hW.out) hb2
          clear hfx hfy x0 x1 x2 x3 y0 y1 y2 y3 hW hb2
          go_wp2_with fail
          exact ⟨⟨j + 1, by omega, by omega, by go_num, HW2⟩, by simp [intOf]; omega⟩
        · go_wp2_with fail
          go_ret
          exact ⟨rfl, below_trans HW.out hW.out⟩
end Go.Proofs.YtnagdbnfdedejaaFmt.fnFodderConcatKeepsWellFormed
