/- The walk of FnFodderAppendKeepsWellFormed. (Written by wip/gen55w.py.) -/
import Derived.Test.YtnagdbnfdedejaaFmtFnFodderAppendKeepsWellFormedB
import Derived.Test.YtnagdbnfdedejaaFmtC55Wrap
import Derived.Test.YtnagdbnfdedejaaFmtC55Flat
import Derived.Test.YtnagdbnfdedejaaFmtCFodAppendAll
import Derived.Deep.RegionHeld3
import Derived.Deep.DeepCutAuto
import Derived.IntWalk
namespace Go.Proofs.YtnagdbnfdedejaaFmt.fnFodderAppendKeepsWellFormed
open Go.ChangeShapes Go.WideShapes Go.ChangeAt Go.RowKit
set_option linter.unusedVariables false

theorem joinStrings_v {b : Nat} {w : World} {v : Value} {xs : List ByteArray} {y : FEl} (h : StrR b w v xs) (h' : IsEl 9 w y) (hn : xs.length ≤ 2199023255552) (hm : y.clen ≤ 1048576) : Calls Tryf.prog 32 #[v, .slice y.ca y.clen y.ccap] w (StrPost (xs ++ y.cs) w) := by
  obtain ⟨a, cap, rfl, hI⟩ := h.form
  exact joinStrings_any _ _ _ _ _ _ xs y.cs w hI h'.fe.strs hn (by omega)

set_option maxRecDepth 20000 in
set_option maxHeartbeats 3200000 in
theorem walk (a0 : Option Addr) (len0 cap0 : Nat) (s0 : List FEl) (a1 : FEl) (w : World) (w0 : IsFEs w a0 len0 cap0 s0) (w1 : IsFE w a1) :
    Calls Tryf.prog 6 #[.slice a0 len0 cap0, a1.agg] w fun e w' => e = .returned (.bool true) ∧ Below w.heap.size w w' := by
  obtain ⟨ea, el, ec, es, ek, eb, ei⟩ := a1
  unfold FEl.agg
  dsimp only
  have hB : Below w.heap.size w (w.alloc (.cells #[.slice ea el ec, .int .i64 ek, .int .i64 eb, .int .i64 ei] 39)) := below_alloc (Below.refl _ _) _
  have hbx := Blk.new w 39 #[.slice ea el ec, .int .i64 ek, .int .i64 eb, .int .i64 ei]
  go_enter Tryf.func6, Tryf.ntmps6
  go_wp2_with fail
  refine (bytes_any _ _ _ s0 ⟨ea, el, ec, es, ek, eb, ei⟩ _ (w0.keep hB) (w1.keep hB)).mono ?_
  rintro e W1 ⟨r, rfl, hr, hb⟩
  have Hr := Lib.hid hr
  replace hB := below_trans hB hb
  replace hbx := hbx.below hb hbx.lt
  clear hr hb
  cases r
  · go_wp2_with fail
    go_ret
    exact ⟨rfl, hB⟩
  obtain ⟨hl0, hup0, hle⟩ := Hr.out rfl
  dsimp only at hle
  have Hup0 := Lib.hid hup0
  have Hs0 := Lib.hid (sh_of_upto w0 hup0)
  have Hl0 : Hid ((s0.map FEl.el).length = len0) := by simp [Hid, w0.len]
  have Hw0 := Lib.hid w0
  have Hw1 := Lib.hid w1
  clear hup0 Hr w0 w1
  have b0 : W1.cell? ⟨w.heap.size, 0, none⟩ = some (.slice ea el ec) := hbx.cell 0
  have b1 : W1.cell? ⟨w.heap.size, 1, none⟩ = some (.int .i64 ek) := hbx.cell 1
  have b2 : W1.cell? ⟨w.heap.size, 2, none⟩ = some (.int .i64 eb) := hbx.cell 2
  have b3 : W1.cell? ⟨w.heap.size, 3, none⟩ = some (.int .i64 ei) := hbx.cell 3
  have hA1 := Hw0.out.keep hB
  have hE1 := Hw1.out.keep hB
  go_wp2_with fail
  go_cut [18] (fun s18 wx => ∃ z : Bool, s18 = .bool z ∧ Hid (Below w.heap.size w wx) ∧ Hid (Blk wx w.heap.size 39 #[.slice ea el ec, .int .i64 ek, .int .i64 eb, .int .i64 ei]))
  case first =>
    go_region_held3 (fun w' => w'.cell? ⟨w.heap.size, 0, none⟩ = some (.slice ea el ec) ∧ w'.cell? ⟨w.heap.size, 1, none⟩ = some (.int .i64 ek) ∧ w'.cell? ⟨w.heap.size, 2, none⟩ = some (.int .i64 eb) ∧ w'.cell? ⟨w.heap.size, 3, none⟩ = some (.int .i64 ei)) (first | exact ⟨b0, b1, b2, b3⟩ | (go_split_ands; exact ⟨cell_later hbf (by assumption), cell_later hbf (by assumption), cell_later hbf (by assumption), cell_later hbf (by assumption)⟩) | (go_split_ands; exact ⟨cell_later hba (by assumption), cell_later hba (by assumption), cell_later hba (by assumption), cell_later hba (by assumption)⟩) | assumption) (first
      | (go_at_call 10; refine (fesBytes_any _ _ _ s0 _ (by first | exact hA1.keep (Below.drew (Below.refl _ _)) | exact (hA1.keep (Below.drew (Below.refl _ _))).keep hbf)).mono ?_; rintro e wf ⟨m1, rfl, hm1, hm1', hba⟩)
      | (go_at_call 25; refine (feBytes_any ⟨ea, el, ec, es, ek, eb, ei⟩ _ (by first | exact hE1.keep (Below.drew (Below.refl _ _)) | exact (hE1.keep (Below.drew (Below.refl _ _))).keep hba)).mono ?_; rintro e we ⟨m2, rfl, hm2, hm2', hbf⟩))
    all_goals
      go_wp2_with fail
      go_meet
      first
        | exact ⟨_, rfl, below_trans (below_trans (Below.drew hB) hba) hbf, (hbx.drew.below hba hbx.lt).below hbf (Nat.lt_of_lt_of_le hbx.lt hba.size)⟩
        | exact ⟨_, rfl, below_trans (below_trans (Below.drew hB) hbf) hba, (hbx.drew.below hbf hbx.lt).below hba (Nat.lt_of_lt_of_le hbx.lt hbf.size)⟩
  case rest =>
  clear hB hbx b0 b1 b2 b3 hA1 hE1
  obtain ⟨z, rfl, HBc, Hbxc⟩ := hcut
  have hB := HBc.out
  have hbx := Hbxc.out
  clear HBc Hbxc
  cases z
  rotate_left
  · go_wp2_with fail
    go_ret
    exact ⟨rfl, hB⟩
  go_wp2_with fail
  refine (wellFormed_any _ _ _ s0 _ (Hw0.out.keep hB)).mono ?_
  rintro e W2 ⟨r, rfl, hr, hb⟩
  have Hr := Lib.hid hr
  replace hB := below_trans hB hb
  replace hbx := hbx.below hb hbx.lt
  clear hr hb
  cases r
  · go_wp2_with fail
    go_ret
    exact ⟨rfl, hB⟩
  have Hwf := Lib.hid (Hr.out.1 rfl)
  clear Hr
  have b0 : W2.cell? ⟨w.heap.size, 0, none⟩ = some (.slice ea el ec) := hbx.cell 0
  have b1 : W2.cell? ⟨w.heap.size, 1, none⟩ = some (.int .i64 ek) := hbx.cell 1
  have b2 : W2.cell? ⟨w.heap.size, 2, none⟩ = some (.int .i64 eb) := hbx.cell 2
  have b3 : W2.cell? ⟨w.heap.size, 3, none⟩ = some (.int .i64 ei) := hbx.cell 3
  go_wp2_with fail
  refine (validElem_any ⟨ea, el, ec, es, ek, eb, ei⟩ _ (Hw1.out.keep hB)).mono ?_
  rintro e W3 ⟨r, rfl, hr, hb⟩
  have Hr := Lib.hid hr
  replace hB := below_trans hB hb
  replace hbx := hbx.below hb hbx.lt
  clear hr hb b0 b1 b2 b3
  cases r
  · go_wp2_with fail
    go_ret
    exact ⟨rfl, hB⟩
  have Hva := Lib.hid (Hr.out.1 rfl)
  clear Hr
  go_wp2_with fail
  refine (cloneFEs_any _ _ _ s0 _ (Hw0.out.keep hB) hl0 Hup0.out).mono ?_
  rintro e W4 ⟨v0, rfl, hv0, hb⟩
  replace hv0 := hv0.weaken (base' := w.heap.size + 1) hbx.lt
  replace hB := below_trans hB hb
  replace hbx := hbx.below hb hbx.lt
  clear hb
  have b0 : W4.cell? ⟨w.heap.size, 0, none⟩ = some (.slice ea el ec) := hbx.cell 0
  have b1 : W4.cell? ⟨w.heap.size, 1, none⟩ = some (.int .i64 ek) := hbx.cell 1
  have b2 : W4.cell? ⟨w.heap.size, 2, none⟩ = some (.int .i64 eb) := hbx.cell 2
  have b3 : W4.cell? ⟨w.heap.size, 3, none⟩ = some (.int .i64 ei) := hbx.cell 3
  go_wp2_with fail
  refine (cloneStrings_any ea el ec es _ (Hw1.out.keep hB).strs hle).mono ?_
  intro e W5 hcp
  obtain ⟨a', c', rfl, hnil, hb, hst5, hown5⟩ := hcp.f (Hw1.out.keep hB).strs hle
  have hy5 : IsEl 9 W5 ⟨a', el, c', es, ek, eb, ei⟩ := ⟨⟨hst5, Hw1.out.wk, Hw1.out.wb, Hw1.out.wi⟩, hown5⟩
  have Hel : Hid (FEl.el ⟨a', el, c', es, ek, eb, ei⟩ = FEl.el ⟨ea, el, ec, es, ek, eb, ei⟩) := by simp [Hid, FEl.el, hnil]
  replace hv0 := hv0.keep hb
  replace hB := below_trans hB hb
  replace hbx := hbx.below hb hbx.lt
  clear hb hcp hnil hst5 hown5 b0 b1 b2 b3
  have b0 : W5.cell? ⟨w.heap.size, 0, none⟩ = some (.slice ea el ec) := hbx.cell 0
  have f0 := hbx.frozen 0
  have hv6 : Fodd 9 39 (w.heap.size + 1) (W5.setCell ⟨w.heap.size, 0, none⟩ (.slice a' el c')) v0 (s0.map FEl.el) := hv0.moved (by simp [World.setCell]) (fun k cs hk => hk.far (p := ⟨w.heap.size, 0, none⟩) (hk.ne_ hbx (by decide)) _) (fun g cs hg hk => hk.far (p := ⟨w.heap.size, 0, none⟩) (fun e => by have := (hv0.lt hg).1; simp only at e; omega) _)
  have hy6 : IsEl 9 (W5.setCell ⟨w.heap.size, 0, none⟩ (.slice a' el c')) ⟨a', el, c', es, ek, eb, ei⟩ := hy5.far hbx (by decide) _
  have hbx6 : Blk (W5.setCell ⟨w.heap.size, 0, none⟩ (.slice a' el c')) w.heap.size 39 #[.slice a' el c', .int .i64 ek, .int .i64 eb, .int .i64 ei] := by have := hbx.set_ 0 (.slice a' el c'); simpa using this
  have hB6 : Below w.heap.size w (W5.setCell ⟨w.heap.size, 0, none⟩ (.slice a' el c')) := below_set hB (Nat.le_refl _) _
  have Hv6 := Lib.hid hv6
  have Hy6 := Lib.hid hy6
  have Hbx6 := Lib.hid hbx6
  have HB6 := Lib.hid hB6
  clear hv0 hy5 hbx hB hv6 hy6 hbx6 hB6
  go_wp2_with fail
  obtain ⟨W6, hW6⟩ : ∃ W6, W6 = W5.setCell ⟨w.heap.size, 0, none⟩ (.slice a' el c') := ⟨_, rfl⟩
  rw [← hW6] at Hv6 Hy6 Hbx6 HB6 ⊢
  have hv0 := Hv6.out
  have hy := Hy6.out
  have hbx := Hbx6.out
  have hB := HB6.out
  clear hW6 Hv6 Hy6 Hbx6 HB6 b0 f0
  refine (toFodder_fod hv0 (by rw [Hl0.out]; exact hl0) Hs0.out).mono ?_
  rintro e W7 ⟨f7, rfl, hf7, hb⟩
  obtain ⟨fa, fn, fc, rfl⟩ := hf7.slice
  replace hf7 := hf7.weaken hB.size
  replace hv0 := hv0.keep hb
  replace hy := hy.keep hb
  replace hbx := hbx.below hb hbx.lt
  replace hB := below_trans hB hb
  clear hb
  have hba : Below W7.heap.size W7 (W7.alloc (.cells #[Value.slice fa fn fc] 28)) := below_alloc (Below.refl _ _) _
  have hp := Blk.new W7 28 #[Value.slice fa fn fc]
  have Hge := Lib.hid hB.size
  have hpx : ¬ W7.heap.size = w.heap.size := by have := hbx.lt; omega
  have lbx : w.heap.size < W7.heap.size := hbx.lt
  have b0 : W7.cell? ⟨w.heap.size, 0, none⟩ = some (.slice a' el c') := hbx.cell 0
  have b1 : W7.cell? ⟨w.heap.size, 1, none⟩ = some (.int .i64 ek) := hbx.cell 1
  have b2 : W7.cell? ⟨w.heap.size, 2, none⟩ = some (.int .i64 eb) := hbx.cell 2
  have b3 : W7.cell? ⟨w.heap.size, 3, none⟩ = some (.int .i64 ei) := hbx.cell 3
  replace hf7 := hf7.keep hba
  replace hv0 := hv0.keep hba
  replace hy := hy.keep hba
  replace hbx := hbx.below hba hbx.lt
  replace hB := below_trans hB hba
  clear hba
  go_wp2_with fail
  refine (toElem_any ⟨a', el, c', es, ek, eb, ei⟩ _ hy.fe hle).mono ?_
  rintro e W8 ⟨z8, rfl, hz8, hze, hb⟩
  replace hf7 := hf7.keep hb
  replace hv0 := hv0.keep hb
  replace hy := hy.keep hb
  replace hbx := hbx.below hb hbx.lt
  replace hp := hp.below hb hp.lt
  replace hB := below_trans hB hb
  have Hze := Lib.hid (hze.trans Hel.out)
  clear hb hze b0 b1 b2 b3
  go_wp2_with fail
  refine (append_any W7.heap.size 0 28 #[Value.slice fa fn fc] _ _ z8 w.heap.size _ hp rfl (by decide) (by decide) hf7 hz8 (by rw [Hl0.out]; omega) hB.size).mono ?_
  rintro e W9 ⟨he, v9, q9, h9, hFr, -⟩
  subst he
  rw [Hze.out] at h9
  replace q9 : Blk W9 W7.heap.size 28 #[v9] := by simpa using q9
  replace hv0 := hv0.fr_other hFr (by decide) (by decide) (ne_p hp (by decide)) (ne_p hp (by decide))
  replace hy := hy.kept hFr.size (fun k cs hk => hFr.other hk (ne_p hp (by decide) k cs hk) (by decide))
  replace hbx := hFr.other hbx (fun e => hpx (by injection e with e; exact e.symm)) (by decide)
  replace hB := below_fr hB hFr hB.size (fun g hg => by injection hg with hg; rw [← hg]; exact Hge.out) (fun g hg => (hf7.lt hg).1)
  obtain ⟨a9, n9, c9, rfl⟩ := h9.slice
  have d9 : W9.cell? ⟨W7.heap.size, 0, none⟩ = some (.slice a9 n9 c9) := q9.cell 0
  clear hFr hp hf7 hz8 Hze
  have hla := len_app (s0.map FEl.el) (FEl.el ⟨ea, el, ec, es, ek, eb, ei⟩)
  rw [Hl0.out] at hla
  have Hla := Lib.hid hla
  have Hsha : Hid (Sh (app (s0.map FEl.el) (FEl.el ⟨ea, el, ec, es, ek, eb, ei⟩))) := Hs0.out.app (by have := Hw1.out.strs.len; simp only at this; show es.length ≤ 1048576; omega)
  clear hla
  go_wp2_with fail
  refine (fromFodder_fod h9 (by have := Hla.out; omega) Hsha.out).mono ?_
  rintro e W10 ⟨got, rfl, hgot, hb⟩
  replace hgot := hgot.weaken hB.size
  replace hv0 := hv0.keep hb
  replace hy := hy.keep hb
  replace hbx := hbx.below hb hbx.lt
  replace hB := below_trans hB hb
  clear hb h9 q9 d9
  go_wp2_with fail
  refine (wellFormed_fod hgot).mono ?_
  rintro e W11 ⟨r, rfl, hr, hb⟩
  obtain rfl : r = true := hr.2 (wf_app Hwf.out Hva.out)
  replace hgot := hgot.keep hb
  replace hv0 := hv0.keep hb
  replace hy := hy.keep hb
  replace hbx := hbx.below hb hbx.lt
  replace hB := below_trans hB hb
  clear hb hr
  obtain ⟨n0, hn0⟩ : ∃ n, n = (s0.map FEl.el).length := ⟨_, rfl⟩
  obtain ⟨ng, hng⟩ : ∃ n, n = (app (s0.map FEl.el) (FEl.el ⟨ea, el, ec, es, ek, eb, ei⟩)).length := ⟨_, rfl⟩
  obtain ⟨aa, capa, fsa, rfl, hIa, hma, -, -⟩ := hv0.form
  obtain ⟨ag, capg, fsg, rfl, hIg, hmg, -, -⟩ := hgot.form
  rw [← hn0] at hIa hv0 ⊢
  rw [← hng] at hIg hgot ⊢
  have h0 : n0 ≤ 1048576 := by rw [hn0, Hl0.out]; exact hl0
  have g1 : n0 ≤ ng := by have := Hla.out; have := Hl0.out; omega
  have g2 : ng ≤ n0 + 2 := by have := Hla.out; have := Hl0.out; omega
  have Hgl : Hid (∀ i, i + 1 < n0 → (app (s0.map FEl.el) (FEl.el ⟨ea, el, ec, es, ek, eb, ei⟩))[i]? = (s0.map FEl.el)[i]?) := fun i hi => get_app _ (by rw [← hn0]; exact hi)
  have HIa := Lib.hid hIa
  have HIg := Lib.hid hIg
  have Hma := Lib.hid hma
  have Hmg := Lib.hid hmg
  have Hgot := Lib.hid hgot
  have Hv0 := Lib.hid hv0
  have Hy := Lib.hid hy
  have Hbx := Lib.hid hbx
  have HB := Lib.hid hB
  have Hn0 := Lib.hid hn0
  have Hng := Lib.hid hng
  clear hIa hIg hma hmg hgot hv0 hy hbx hB hn0 hng
  have g3 : ¬ (ng : Int) - (n0 : Int) < 0 := by omega
  have g4 : ¬ 2 < (ng : Int) - (n0 : Int) := by omega
  go_wp2_with fail
  go_loopw [8] (fun i wr => ∃ k : Nat, k ≤ n0 ∧ i = .int .i64 k ∧ Hid (Below W11.heap.size W11 wr)) (fun i _ => n0 - (intOf i).toNat)
  case atStart => exact ⟨0, Nat.zero_le _, rfl, Below.refl _ _⟩
  case round =>
    obtain ⟨k, hk, rfl, hW⟩ := hrel
    by_cases hlt : k + 1 < n0
    · obtain ⟨bx, ox, x, rfl, hbx, hx, hfx, x0, x1, x2, x3⟩ := (HIg.out.keep hW.out).at_ (show k < ng by omega)
      obtain ⟨by', oy, y, rfl, hby, hy, hfy, y0, y1, y2, y3⟩ := (HIa.out.keep hW.out).at_ (show k < n0 by omega)
      have Hxy : Hid (Alike x y) := by
        have h1 := el_at hx
        have h2 := el_at hy
        rw [Hmg.out, Hgl.out k hlt, ← Hma.out, h2] at h1
        exact alike_el (Option.some.inj h1).symm
      have i0 : (0 : Int) ≤ (k : Int) := by omega
      have i1 : (k : Int) < (ng : Int) := by omega
      have i2 : (k : Int) < (n0 : Int) := by omega
      have i3 : (k : Int) + 1 < (n0 : Int) := by omega
      clear hx hy
      go_wp2_with fail
      go_region_held3 (fun w' => w'.cell? ⟨bx, ox + k * 4, none⟩ = some (.slice x.ca x.clen x.ccap) ∧ w'.cell? ⟨bx, ox + k * 4 + 1, none⟩ = some (.int .i64 x.kind) ∧ w'.cell? ⟨bx, ox + k * 4 + 2, none⟩ = some (.int .i64 x.blanks) ∧ w'.cell? ⟨bx, ox + k * 4 + 3, none⟩ = some (.int .i64 x.indent) ∧ w'.cell? ⟨by', oy + k * 4, none⟩ = some (.slice y.ca y.clen y.ccap) ∧ w'.cell? ⟨by', oy + k * 4 + 1, none⟩ = some (.int .i64 y.kind) ∧ w'.cell? ⟨by', oy + k * 4 + 2, none⟩ = some (.int .i64 y.blanks) ∧ w'.cell? ⟨by', oy + k * 4 + 3, none⟩ = some (.int .i64 y.indent)) (first | exact ⟨x0, x1, x2, x3, y0, y1, y2, y3⟩ | (go_split_ands; exact ⟨cell_later hb2 (by assumption), cell_later hb2 (by assumption), cell_later hb2 (by assumption), cell_later hb2 (by assumption), cell_later hb2 (by assumption), cell_later hb2 (by assumption), cell_later hb2 (by assumption), cell_later hb2 (by assumption)⟩) | assumption) (first | (go_at_call 29; refine (sameFE_yes x y _ (hfx.keep (Below.drew (Below.refl _ _))) (hfy.keep (Below.drew (Below.refl _ _))) Hxy.out).mono ?_; rintro e w2 ⟨rfl, hb2⟩))
      rename_i hheld
      clear hheld
      have HW2 : Hid (Below W11.heap.size W11 w2) := below_trans (Below.drew hW.out) hb2
      clear hfx hfy x0 x1 x2 x3 y0 y1 y2 y3 hW hb2
      go_wp2_with fail
      exact ⟨⟨k + 1, by omega, by go_num, HW2⟩, by simp [intOf]; omega⟩
    · have i3 : ¬ (k : Int) + 1 < (n0 : Int) := by omega
      have c0 : wr.cell? ⟨w.heap.size, 0, none⟩ = some (.slice a' el c') := (Hbx.out.below hW.out Hbx.out.lt).cell 0
      have hgt := Hgot.out.keep hW.out
      have hvv := Hv0.out.keep hW.out
      have hyy := Hy.out.keep hW.out
      have hBB := below_trans HB.out hW.out
      have Hlg : Hid (ng ≤ 4194304) := by simp only [Hid]; omega
      have Hla0 : Hid ((app (s0.map FEl.el) (FEl.el ⟨ea, el, ec, es, ek, eb, ei⟩)).length ≤ 4194304) := by have := Hng.out; simp only [Hid]; omega
      have Hlb0 : Hid ((s0.map FEl.el).length ≤ 4194304) := by have := Hn0.out; simp only [Hid]; omega
      have Hf0 : Hid ((flat (s0.map FEl.el)).length ≤ 2199023255552) := by
        have h1 := flat_len Hs0.out
        have h2 : (s0.map FEl.el).length * 1048576 ≤ 1048576 * 1048576 := Nat.mul_le_mul_right _ (by have := Hn0.out; omega)
        simp only [Hid]
        omega
      have Hflat : Hid (flat (app (s0.map FEl.el) (FEl.el ⟨ea, el, ec, es, ek, eb, ei⟩)) = flat (s0.map FEl.el) ++ es) := flat_app _ _
      clear hW
      go_wp2_with fail
      go_region_held3 (fun w' => w'.cell? ⟨w.heap.size, 0, none⟩ = some (.slice a' el c')) (first | exact c0 | exact cell_later hbs (by assumption) | exact cell_later hbj (by assumption) | exact cell_later hbg (by assumption) | exact cell_later hbr (by assumption) | assumption) (first
        | (go_at_call_of 31 (Value.slice ag ng capg); refine (flatten_fod (base := w.heap.size) (T := 39) (by first | exact hgt.keep (Below.drew (Below.refl _ _)) | exact (hgt.keep (Below.drew (Below.refl _ _))).keep hbr | exact ((hgt.keep (Below.drew (Below.refl _ _))).keep hbr).keep hbj) Hla0.out Hsha.out).mono ?_; rintro e wg ⟨x1, rfl, hx1, hbg⟩)
        | (go_at_call_of 31 (Value.slice aa n0 capa); refine (flatten_fod (base := w.heap.size + 1) (T := 39) (by first | exact hvv.keep (Below.drew (Below.refl _ _)) | exact (hvv.keep (Below.drew (Below.refl _ _))).keep hbg) Hlb0.out Hs0.out).mono ?_; rintro e wf ⟨x2, rfl, hx2, hbr⟩)
        | (go_at_call 32; refine (joinStrings_v (y := ⟨a', el, c', es, ek, eb, ei⟩) (xs := flat (s0.map FEl.el)) (by first | exact hx2 | exact hx2.keep hbg) (by first | exact (hyy.keep (Below.drew (Below.refl _ _))).keep hbr | exact ((hyy.keep (Below.drew (Below.refl _ _))).keep hbg).keep hbr | exact ((hyy.keep (Below.drew (Below.refl _ _))).keep hbr).keep hbg) Hf0.out hle).mono ?_; rintro e wj ⟨x3, rfl, hx3, hbj⟩)
        | (go_at_call 30; rw [Hflat.out] at hx1; refine (sameStrings_r (by first | exact hx1 | exact hx1.keep hbj | exact (hx1.keep hbr).keep hbj | exact hx1.keep hbr) (by first | exact hx3 | exact hx3.keep hbg)).mono ?_; rintro e ws ⟨rfl, hbs⟩))
      all_goals
        go_wp2_with fail
        go_ret
        refine ⟨rfl, below_trans ?_ hbs⟩
        first
          | exact below_trans (below_trans (below_trans (Below.drew hBB) hbg) hbr) hbj
          | exact below_trans (below_trans (below_trans (Below.drew hBB) hbr) hbg) hbj
          | exact below_trans (below_trans (below_trans (Below.drew hBB) hbr) hbj) hbg
end Go.Proofs.YtnagdbnfdedejaaFmt.fnFodderAppendKeepsWellFormed
