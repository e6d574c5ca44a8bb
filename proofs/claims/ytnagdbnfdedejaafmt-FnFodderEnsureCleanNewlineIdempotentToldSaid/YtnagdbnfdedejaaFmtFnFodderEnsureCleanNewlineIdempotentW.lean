/- The walk of FnFodderEnsureCleanNewlineIdempotent. (Written by wip/gen55w.py.) -/
import Derived.Test.YtnagdbnfdedejaaFmtFnFodderEnsureCleanNewlineIdempotentB
import Derived.Test.YtnagdbnfdedejaaFmtC55Wrap
import Derived.Test.YtnagdbnfdedejaaFmtCFodEnsure
import Derived.Test.YtnagdbnfdedejaaFmtCFodCount
import Derived.Deep.RegionHeld3
namespace Go.Proofs.YtnagdbnfdedejaaFmt.fnFodderEnsureCleanNewlineIdempotent
open Go.ChangeShapes Go.WideShapes Go.ChangeAt Go.RowKit
set_option linter.unusedVariables false

theorem clean_fod {T base : Nat} {w : World} {v : Value} {ls : List El} (h : Fodd 9 T base w v ls) : Calls Tryf.prog 34 #[v] w fun e w' => e = .returned (.bool (closed ls)) ∧ w = w' := by
  obtain ⟨a, cap, fs, rfl, hI, hm, _, _⟩ := h.form
  have := clean_any _ _ _ fs w hI
  rw [hm] at this
  exact this
theorem count_fod {T base : Nat} {w : World} {v : Value} {ls : List El} (h : Fodd 9 T base w v ls) (hk : known ls) : Calls Tryf.prog 35 #[v] w fun e w' => e = .returned (.int .i64 (cnt ls)) ∧ Below w.heap.size w w' := by
  obtain ⟨a, cap, fs, rfl, hI, hm, _, _⟩ := h.form
  have := count_any _ _ _ fs w hI (by rw [hm]; exact hk)
  rw [hm] at this
  exact this
theorem cnt_ens (l : List El) : cnt (ens l) = if closed l = true then cnt l else wrap64 (cnt l + 1) := by
  unfold ens
  split
  · rfl
  · exact cnt_snoc _ _
theorem sh_ens {l : List El} (h : Sh l) : Sh (ens l) := by
  unfold ens
  split
  · exact h
  · exact h.append fun x hx => by
      have : x = le0 := by simpa using hx
      rw [this]; simp [le0]
theorem len_ens (l : List El) : (ens l).length ≤ l.length + 1 := by
  unfold ens
  split
  · omega
  · simp

set_option maxRecDepth 20000 in
set_option maxHeartbeats 3200000 in
theorem walk (a0 : Option Addr) (len0 cap0 : Nat) (s0 : List FEl) (w : World) (w0 : IsFEs w a0 len0 cap0 s0) :
    Calls Tryf.prog 7 #[.slice a0 len0 cap0] w fun e w' => e = .returned (.bool true) ∧ Below w.heap.size w w' := by
  go_enter Tryf.func7, Tryf.ntmps7
  go_wp2_with fail
  refine (bytes_any _ _ _ _ _ w0).mono ?_
  rintro e w' ⟨r, rfl, hr, rfl⟩
  cases r
  · go_wp2_with fail
    go_ret
    exact ⟨rfl, Below.refl _ _⟩
  obtain ⟨hl0, hup0⟩ := hr rfl
  clear hr
  have Hup0 := Lib.hid hup0
  have Hs0 := Lib.hid (sh_of_upto w0 hup0)
  have Hl0 : Hid ((s0.map FEl.el).length = len0) := by simp [Hid, w0.len]
  clear hup0
  have hB : Below w.heap.size w w := Below.refl _ _
  go_wp2_with fail
  refine (fesBytes_any _ _ _ s0 _ (w0.keep hB)).mono ?_
  rintro e ww ⟨mm0, rfl, hm0, hm0', hb⟩
  replace hB := below_trans hB hb
  clear hb
  go_wp2_with fail
  all_goals try (go_ret; exact ⟨rfl, hB⟩)
  refine (kindsKnown_any _ _ _ s0 _ (w0.keep hB)).mono ?_
  rintro e ww ⟨r, rfl, hr, hb⟩
  have Hr := Lib.hid hr
  replace hB := below_trans hB hb
  clear hr hb
  cases r
  · go_wp2_with fail
    all_goals (go_ret; exact ⟨rfl, hB⟩)
  have Hk0 := Lib.hid (Hr.out.1 rfl)
  clear Hr
  go_wp2_with fail
  clear hm0 hm0'
  refine (cloneFEs_any _ _ _ s0 _ (w0.keep hB) hl0 Hup0.out).mono ?_
  rintro e ww ⟨v0, rfl, hv0, hb⟩
  replace hv0 := hv0.weaken hB.size
  replace hB := below_trans hB hb
  clear hb
  go_wp2_with fail
  clear w0 Hup0
  have hlen0 : (s0.map FEl.el).length ≤ 1048576 := by rw [Hl0.out]; exact hl0
  generalize hls : s0.map FEl.el = ls at *
  have Hls := Lib.hid hls
  clear hls
  have Hlen0 := Lib.hid hlen0
  have Hlen1 : Hid ((ens ls).length ≤ 4194302) := by have := len_ens ls; simp only [Hid]; omega
  clear hlen0
  refine (toFodder_fod hv0 Hlen0.out Hs0.out).mono ?_
  rintro e W1 ⟨f1, rfl, hf1, hb⟩
  replace hv0 := hv0.keep hb
  replace hB := below_trans hB hb
  clear hb
  go_wp2_with fail
  refine (clean_fod hf1).mono ?_
  rintro e W1' ⟨he, rfl⟩
  obtain ⟨cb, hcb⟩ : ∃ cb, cb = closed ls := ⟨_, rfl⟩
  rw [← hcb] at he
  subst he
  have Hcb := Lib.hid hcb
  clear hcb hf1
  go_wp2_with fail
  refine (toFodder_fod hv0 Hlen0.out Hs0.out).mono ?_
  rintro e W2 ⟨f2, rfl, hf2, hb⟩
  replace hv0 := hv0.keep hb
  replace hB := below_trans hB hb
  clear hb
  go_wp2_with fail
  refine (count_fod hf2 Hk0.out).mono ?_
  rintro e W3 ⟨rfl, hb⟩
  replace hv0 := hv0.keep hb
  replace hB := below_trans hB hb
  clear hb hf2
  go_wp2_with fail
  refine (toFodder_fod hv0 Hlen0.out Hs0.out).mono ?_
  rintro e W4 ⟨g0, rfl, hg, hb⟩
  obtain ⟨ga, gn, gc, rfl⟩ := hg.slice
  replace hv0 := hv0.keep hb
  replace hg := hg.weaken hB.size
  replace hB := below_trans hB hb
  clear hb
  have hba : Below W4.heap.size W4 (W4.alloc (.cells #[Value.slice ga gn gc] 28)) := below_alloc (Below.refl _ _) _
  have hp := Blk.new W4 28 #[Value.slice ga gn gc]
  have Hge := Lib.hid hB.size
  replace hv0 := hv0.keep hba
  replace hg := hg.keep hba
  replace hB := below_trans hB hba
  clear hba
  go_wp2_with fail
  refine (ensure_any W4.heap.size 0 28 #[Value.slice ga gn gc] _ ls w.heap.size _ hp rfl (by decide) (by decide) hg (by have := Hlen0.out; omega) hB.size).mono ?_
  rintro e W5 ⟨he, v5, q5, h5, hFr, -⟩
  subst he
  replace q5 : Blk W5 W4.heap.size 28 #[v5] := by simpa using q5
  replace hv0 := hv0.fr_other hFr (by decide) (by decide) (ne_p hp (by decide)) (ne_p hp (by decide))
  replace hB := below_fr hB hFr hB.size (fun g hg' => by injection hg' with hg'; rw [← hg']; exact Hge.out) (fun g hg' => (hg.lt hg').1)
  obtain ⟨a5, n5, c5, rfl⟩ := h5.slice
  have d5 : W5.cell? ⟨W4.heap.size, 0, none⟩ = some (.slice a5 n5 c5) := q5.cell 0
  clear hFr hp hg
  go_wp2_with fail
  refine (fromFodder_fod h5 (by have := Hlen1.out; omega) (sh_ens Hs0.out)).mono ?_
  rintro e W6 ⟨once, rfl, ho, hb⟩
  replace hv0 := hv0.keep hb
  replace h5 := h5.keep hb
  replace q5 := q5.below hb q5.lt
  replace ho := ho.weaken hB.size
  replace hB := below_trans hB hb
  clear hb d5
  have d5 : W6.cell? ⟨W4.heap.size, 0, none⟩ = some (.slice a5 n5 c5) := q5.cell 0
  go_wp2_with fail
  refine (count_fod h5 (known_ens Hk0.out)).mono ?_
  rintro e W7 ⟨rfl, hb⟩
  replace hv0 := hv0.keep hb
  replace h5 := h5.keep hb
  replace ho := ho.keep hb
  replace q5 := q5.below hb q5.lt
  replace hB := below_trans hB hb
  clear hb d5
  go_wp2_with fail
  refine (ensure_any W4.heap.size 0 28 #[Value.slice a5 n5 c5] _ (ens ls) w.heap.size _ q5 rfl (by decide) (by decide) h5 Hlen1.out hB.size).mono ?_
  rintro e W8 ⟨he, v8, q8, h8, hFr, -⟩
  subst he
  rw [ens_ens] at h8
  replace q8 : Blk W8 W4.heap.size 28 #[v8] := by simpa using q8
  replace hv0 := hv0.fr_other hFr (by decide) (by decide) (ne_p q5 (by decide)) (ne_p q5 (by decide))
  replace ho := ho.fr_other hFr (by decide) (by decide) (ne_p q5 (by decide)) (ne_p q5 (by decide))
  replace hB := below_fr hB hFr hB.size (fun g hg' => by injection hg' with hg'; rw [← hg']; exact Hge.out) (fun g hg' => (h5.lt hg').1)
  obtain ⟨a8, n8, c8, rfl⟩ := h8.slice
  have d8 : W8.cell? ⟨W4.heap.size, 0, none⟩ = some (.slice a8 n8 c8) := q8.cell 0
  clear hFr q5 h5
  go_wp2_with fail
  refine (clean_fod h8).mono ?_
  rintro e W8' ⟨he, rfl⟩
  rw [closed_ens] at he
  subst he
  go_wp2_with fail
  refine (fromFodder_fod h8 (by have := Hlen1.out; omega) (sh_ens Hs0.out)).mono ?_
  rintro e W9 ⟨v9, rfl, h9, hb⟩
  replace hv0 := hv0.keep hb
  replace ho := ho.keep hb
  replace hB := below_trans hB hb
  clear hb d8 q8 h8
  go_wp2_with fail
  refine (sameFEs_fod h9 ho).mono ?_
  rintro e W10 ⟨rfl, hb⟩
  replace hv0 := hv0.keep hb
  replace ho := ho.keep hb
  replace hB := below_trans hB hb
  clear hb h9
  have Hcnt : Hid (cnt (ens ls) = if cb = true then cnt ls else wrap64 (cnt ls + 1)) := by simp only [Hid]; rw [cnt_ens, Hcb.out]
  rw [Hcnt.out]
  clear Hcnt
  cases cb
  all_goals
    simp only [if_true, if_false, Bool.false_eq_true]
    go_wp2_with fail
    refine (wellFormed_fod hv0).mono ?_
    rintro e W11 ⟨r, rfl, hr, hb⟩
    have Hr := Lib.hid hr
    replace ho := ho.keep hb
    replace hB := below_trans hB hb
    clear hr hb
    cases r
    · go_wp2_with fail
      go_ret
      exact ⟨rfl, hB⟩
    have Hwf := Lib.hid (wf_ens (Hr.out.1 rfl))
    clear Hr
    go_wp2_with fail
    refine (wellFormed_fod ho).mono ?_
    rintro e W12 ⟨r, rfl, hr, hb⟩
    have Hr := Lib.hid hr
    replace hB := below_trans hB hb
    clear hr hb
    have hrt : r = true := Hr.out.2 Hwf.out
    subst hrt
    clear Hr
    go_wp2_with fail
    go_ret
    exact ⟨rfl, hB⟩
end Go.Proofs.YtnagdbnfdedejaaFmt.fnFodderEnsureCleanNewlineIdempotent
