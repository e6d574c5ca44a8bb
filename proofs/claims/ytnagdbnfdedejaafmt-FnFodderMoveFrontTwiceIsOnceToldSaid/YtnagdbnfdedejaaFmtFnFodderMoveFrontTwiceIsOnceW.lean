/- The walk of FnFodderMoveFrontTwiceIsOnce. (Written by wip/gen55w.py.) -/
import Derived.Test.YtnagdbnfdedejaaFmtFnFodderMoveFrontTwiceIsOnceB
import Derived.Test.YtnagdbnfdedejaaFmtC55Wrap
import Derived.Test.YtnagdbnfdedejaaFmtCFodMove
import Derived.Deep.RegionHeld3
namespace Go.Proofs.YtnagdbnfdedejaaFmt.fnFodderMoveFrontTwiceIsOnce
open Go.ChangeShapes Go.WideShapes Go.ChangeAt Go.RowKit
set_option linter.unusedVariables false

set_option maxRecDepth 20000 in
set_option maxHeartbeats 3200000 in
theorem walk (a0 : Option Addr) (len0 cap0 : Nat) (s0 : List FEl) (a1 : Option Addr) (len1 cap1 : Nat) (s1 : List FEl) (a2 : Option Addr) (len2 cap2 : Nat) (s2 : List FEl) (w : World) (w0 : IsFEs w a0 len0 cap0 s0) (w1 : IsFEs w a1 len1 cap1 s1) (w2 : IsFEs w a2 len2 cap2 s2) :
    Calls Tryf.prog 5 #[.slice a0 len0 cap0, .slice a1 len1 cap1, .slice a2 len2 cap2] w fun e w' => e = .returned (.bool true) ∧ Below w.heap.size w w' := by
  go_enter Tryf.func5, Tryf.ntmps5
  go_wp2_with fail
  refine (bytes_any _ _ _ _ _ _ _ _ _ _ _ _ _ w0 w1 w2).mono ?_
  rintro e w' ⟨r, rfl, hr, rfl⟩
  cases r
  · go_wp2_with fail
    go_ret
    exact ⟨rfl, Below.refl _ _⟩
  obtain ⟨hl0, hup0, hl1, hup1, hl2, hup2⟩ := hr rfl
  clear hr
  have Hup0 := Lib.hid hup0
  have Hs0 := Lib.hid (sh_of_upto w0 hup0)
  have Hl0 : Hid ((s0.map FEl.el).length = len0) := by simp [Hid, w0.len]
  clear hup0
  have Hup1 := Lib.hid hup1
  have Hs1 := Lib.hid (sh_of_upto w1 hup1)
  have Hl1 : Hid ((s1.map FEl.el).length = len1) := by simp [Hid, w1.len]
  clear hup1
  have Hup2 := Lib.hid hup2
  have Hs2 := Lib.hid (sh_of_upto w2 hup2)
  have Hl2 : Hid ((s2.map FEl.el).length = len2) := by simp [Hid, w2.len]
  clear hup2
  have hB : Below w.heap.size w w := Below.refl _ _
  go_wp2_with fail
  refine (fesBytes_any _ _ _ s0 _ (w0.keep hB)).mono ?_
  rintro e ww ⟨mm0, rfl, hm0, hm0', hb⟩
  replace hB := below_trans hB hb
  clear hb
  go_wp2_with fail
  refine (fesBytes_any _ _ _ s1 _ (w1.keep hB)).mono ?_
  rintro e ww ⟨mm1, rfl, hm1, hm1', hb⟩
  replace hB := below_trans hB hb
  clear hb
  go_wp2_with fail
  refine (fesBytes_any _ _ _ s2 _ (w2.keep hB)).mono ?_
  rintro e ww ⟨mm2, rfl, hm2, hm2', hb⟩
  replace hB := below_trans hB hb
  clear hb
  go_wp2_with fail
  all_goals try (go_ret; exact ⟨rfl, hB⟩)
  refine (kindsKnown_any _ _ _ s0 _ (w0.keep hB)).mono ?_
  rintro e ww ⟨r, rfl, hr, hb⟩
  have Hr := Lib.hid hr
  replace hB := below_trans hB hb
  clear hr hb
  cases r
  · go_wp2_with fail
    all_goals (go_ret; exact ⟨rfl, hB⟩)
  have Hk0 := Lib.hid (Hr.out.1 rfl)
  clear Hr
  go_wp2_with fail
  refine (kindsKnown_any _ _ _ s1 _ (w1.keep hB)).mono ?_
  rintro e ww ⟨r, rfl, hr, hb⟩
  have Hr := Lib.hid hr
  replace hB := below_trans hB hb
  clear hr hb
  cases r
  · go_wp2_with fail
    all_goals (go_ret; exact ⟨rfl, hB⟩)
  have Hk1 := Lib.hid (Hr.out.1 rfl)
  clear Hr
  go_wp2_with fail
  refine (kindsKnown_any _ _ _ s2 _ (w2.keep hB)).mono ?_
  rintro e ww ⟨r, rfl, hr, hb⟩
  have Hr := Lib.hid hr
  replace hB := below_trans hB hb
  clear hr hb
  cases r
  · go_wp2_with fail
    all_goals (go_ret; exact ⟨rfl, hB⟩)
  have Hk2 := Lib.hid (Hr.out.1 rfl)
  clear Hr
  go_wp2_with fail
  refine (wellOrdered_any _ _ _ s1 _ (w1.keep hB)).mono ?_
  rintro e ww ⟨r, rfl, hr, hb⟩
  have Hr := Lib.hid hr
  replace hB := below_trans hB hb
  clear hr hb
  cases r
  · go_wp2_with fail
    all_goals (go_ret; exact ⟨rfl, hB⟩)
  have Hwo := Lib.hid (Hr.out.1 rfl)
  clear Hr
  go_wp2_with fail
  clear hm0 hm0' hm1 hm1' hm2 hm2' Hk0 Hk1 Hk2
  refine (cloneFEs_any _ _ _ s0 _ (w0.keep hB) hl0 Hup0.out).mono ?_
  rintro e ww ⟨v0, rfl, hv0, hb⟩
  replace hv0 := hv0.weaken hB.size
  replace hB := below_trans hB hb
  clear hb
  go_wp2_with fail
  refine (cloneFEs_any _ _ _ s1 _ (w1.keep hB) hl1 Hup1.out).mono ?_
  rintro e ww ⟨v1, rfl, hv1, hb⟩
  replace hv1 := hv1.weaken hB.size
  replace hv0 := hv0.keep hb
  replace hB := below_trans hB hb
  clear hb
  go_wp2_with fail
  refine (cloneFEs_any _ _ _ s2 _ (w2.keep hB) hl2 Hup2.out).mono ?_
  rintro e ww ⟨v2, rfl, hv2, hb⟩
  replace hv2 := hv2.weaken hB.size
  replace hv0 := hv0.keep hb
  replace hv1 := hv1.keep hb
  replace hB := below_trans hB hb
  clear hb
  go_wp2_with fail
  clear w0 w1 w2 Hup0 Hup1 Hup2
  obtain ⟨W0, hW0⟩ : ∃ W0, W0 = ww := ⟨_, rfl⟩
  subst hW0
  refine (toFodder_fod hv0 (by rw [Hl0.out]; exact hl0) Hs0.out).mono ?_
  rintro e W1 ⟨fa, rfl, hfa, hb⟩
  obtain ⟨faa, fan, fac, rfl⟩ := hfa.slice
  have Hlofa : Hid (∀ g, (Value.slice faa fan fac).ownBlock = some g → W0.heap.size ≤ g) := fun g hg => by have := (hfa.lt hg).1; (try simp at this); omega
  have Hhifa : Hid (∀ g, (Value.slice faa fan fac).ownBlock = some g → g < W1.heap.size) := fun g hg => (hfa.lt hg).2
  have sW1 : W0.heap.size ≤ W1.heap.size := by have := hb.size; (try simp at this); omega
  replace hv0 := hv0.keep hb
  replace hv1 := hv1.keep hb
  replace hv2 := hv2.keep hb
  replace hfa := hfa.weaken hB.size
  replace hB := below_trans hB hb
  clear hb
  go_wp2_with fail
  have hba : Below W1.heap.size W1 (W1.alloc (.cells #[Value.slice faa fan fac] 28)) := below_alloc (Below.refl _ _) _
  have pfa := Blk.new W1 28 #[Value.slice faa fan fac]
  have Hgefa := Lib.hid hB.size
  replace hv0 := hv0.keep hba
  replace hv1 := hv1.keep hba
  replace hv2 := hv2.keep hba
  replace hfa := hfa.keep hba
  replace hB := below_trans hB hba
  clear hba
  go_wp2_with fail
  refine (toFodder_fod hv1 (by rw [Hl1.out]; exact hl1) Hs1.out).mono ?_
  rintro e W2 ⟨fb, rfl, hfb, hb⟩
  obtain ⟨fba, fbn, fbc, rfl⟩ := hfb.slice
  have Hlofb : Hid (∀ g, (Value.slice fba fbn fbc).ownBlock = some g → W1.heap.size + 1 ≤ g) := fun g hg => by have := (hfb.lt hg).1; (try simp at this); omega
  have Hhifb : Hid (∀ g, (Value.slice fba fbn fbc).ownBlock = some g → g < W2.heap.size) := fun g hg => (hfb.lt hg).2
  have sW2 : W1.heap.size + 1 ≤ W2.heap.size := by have := hb.size; (try simp at this); omega
  replace hv0 := hv0.keep hb
  replace hv1 := hv1.keep hb
  replace hv2 := hv2.keep hb
  replace hfa := hfa.keep hb
  replace pfa := pfa.below hb pfa.lt
  replace hfb := hfb.weaken hB.size
  replace hB := below_trans hB hb
  clear hb
  go_wp2_with fail
  have hba : Below W2.heap.size W2 (W2.alloc (.cells #[Value.slice fba fbn fbc] 28)) := below_alloc (Below.refl _ _) _
  have pfb := Blk.new W2 28 #[Value.slice fba fbn fbc]
  have Hgefb := Lib.hid hB.size
  replace hv0 := hv0.keep hba
  replace hv1 := hv1.keep hba
  replace hv2 := hv2.keep hba
  replace hfa := hfa.keep hba
  replace hfb := hfb.keep hba
  replace pfa := pfa.below hba pfa.lt
  replace hB := below_trans hB hba
  clear hba
  go_wp2_with fail
  refine (toFodder_fod hv2 (by rw [Hl2.out]; exact hl2) Hs2.out).mono ?_
  rintro e W3 ⟨fc, rfl, hfc, hb⟩
  obtain ⟨fca, fcn, fcc, rfl⟩ := hfc.slice
  have Hlofc : Hid (∀ g, (Value.slice fca fcn fcc).ownBlock = some g → W2.heap.size + 1 ≤ g) := fun g hg => by have := (hfc.lt hg).1; (try simp at this); omega
  have Hhifc : Hid (∀ g, (Value.slice fca fcn fcc).ownBlock = some g → g < W3.heap.size) := fun g hg => (hfc.lt hg).2
  have sW3 : W2.heap.size + 1 ≤ W3.heap.size := by have := hb.size; (try simp at this); omega
  replace hv0 := hv0.keep hb
  replace hv1 := hv1.keep hb
  replace hv2 := hv2.keep hb
  replace hfa := hfa.keep hb
  replace hfb := hfb.keep hb
  replace pfa := pfa.below hb pfa.lt
  replace pfb := pfb.below hb pfb.lt
  replace hfc := hfc.weaken hB.size
  replace hB := below_trans hB hb
  clear hb
  go_wp2_with fail
  have hba : Below W3.heap.size W3 (W3.alloc (.cells #[Value.slice fca fcn fcc] 28)) := below_alloc (Below.refl _ _) _
  have pfc := Blk.new W3 28 #[Value.slice fca fcn fcc]
  have Hgefc := Lib.hid hB.size
  replace hv0 := hv0.keep hba
  replace hv1 := hv1.keep hba
  replace hv2 := hv2.keep hba
  replace hfa := hfa.keep hba
  replace hfb := hfb.keep hba
  replace hfc := hfc.keep hba
  replace pfa := pfa.below hba pfa.lt
  replace pfb := pfb.below hba pfb.lt
  replace hB := below_trans hB hba
  clear hba
  go_wp2_with fail
  have hne1 : ∀ g, (Value.slice faa fan fac).ownBlock = some g → (Value.slice fba fbn fbc).ownBlock ≠ some g := fun g h1 h2 => by have := Hhifa.out g h1; have := Hlofb.out g h2; omega
  refine (move_any W1.heap.size W2.heap.size _ _ _ _ w.heap.size _ pfa pfb (by omega) hfa hfb hne1 (by rw [Hl0.out, Hl1.out]; omega) hB.size).mono ?_
  rintro e W4 ⟨he, v4, g4, q0, q1, h4, hFr, hloc⟩
  subst he
  have s4 : W3.heap.size + 1 ≤ W4.heap.size := by have := hFr.size; simp at this; omega
  obtain ⟨a4, n4, c4, rfl⟩ := h4.slice
  have Hlo4 : Hid (∀ g, (Value.slice a4 n4 c4).ownBlock = some g → g < W2.heap.size ∨ W3.heap.size + 1 ≤ g) := fun g hg => by
    rcases hloc g hg with h | h | h
    · exact Or.inl (Hhifb.out g h)
    · have := Hhifa.out g h; omega
    · simp at h; omega
  replace hv0 := hv0.fr2 hFr
  replace hv1 := hv1.fr2 hFr
  replace hv2 := hv2.fr2 hFr
  replace hfc := hfc.fr2row hFr (fun g hg e => by have := Hlofc.out g hg; have := Hhifb.out g e.symm; omega)
  replace pfc := hFr.var pfc (by omega) (by omega)
  replace hB := below_fr2 hB hFr Hgefa.out Hgefb.out (fun g hg => (hfb.lt hg).1)
  clear hFr hloc hfa hfb pfa pfb hne1
  go_wp2_with fail
  have hne2 : ∀ g, (Value.slice a4 n4 c4).ownBlock = some g → (Value.slice fca fcn fcc).ownBlock ≠ some g := fun g h1 h2 => by have := Hlo4.out g h1; have := Hlofc.out g h2; have := Hhifc.out g h2; omega
  have hlen2 : (s2.map FEl.el).length + (cat (s1.map FEl.el) (s0.map FEl.el)).length ≤ 4194300 := by
    have h1 := len_cat_le (s1.map FEl.el) (s0.map FEl.el)
    rw [Hl0.out, Hl1.out] at h1
    rw [Hl2.out]
    omega
  refine (move_any W1.heap.size W3.heap.size _ _ _ _ w.heap.size _ q0 pfc (by omega) h4 hfc hne2 hlen2 hB.size).mono ?_
  rintro e W5 ⟨he, v5, g5, q0', q2, h5, hFr, -⟩
  subst he
  have s5 : W4.heap.size ≤ W5.heap.size := hFr.size
  obtain ⟨a5, n5, c5, rfl⟩ := h5.slice
  have Hhi5 : Hid (∀ g, (Value.slice a5 n5 c5).ownBlock = some g → g < W5.heap.size) := fun g hg => (h5.lt hg).2
  replace hv0 := hv0.fr2 hFr
  replace hv1 := hv1.fr2 hFr
  replace hv2 := hv2.fr2 hFr
  replace q1 := hFr.var q1 (by omega) (by omega)
  replace hB := below_fr2 hB hFr Hgefa.out Hgefc.out (fun g hg => (hfc.lt hg).1)
  clear hFr h4 hfc pfc q0 hne2 hlen2
  go_wp2_with fail
  refine (toFodder_fod hv0 (by rw [Hl0.out]; exact hl0) Hs0.out).mono ?_
  rintro e W6 ⟨ga, rfl, hga, hb⟩
  obtain ⟨gaa, gan, gac, rfl⟩ := hga.slice
  have Hloga : Hid (∀ g, (Value.slice gaa gan gac).ownBlock = some g → W5.heap.size ≤ g) := fun g hg => by have := (hga.lt hg).1; (try simp at this); omega
  have Hhiga : Hid (∀ g, (Value.slice gaa gan gac).ownBlock = some g → g < W6.heap.size) := fun g hg => (hga.lt hg).2
  have sW6 : W5.heap.size ≤ W6.heap.size := by have := hb.size; (try simp at this); omega
  replace hv0 := hv0.keep hb
  replace hv1 := hv1.keep hb
  replace hv2 := hv2.keep hb
  replace h5 := h5.keep hb
  replace q0' := q0'.below hb q0'.lt
  replace q1 := q1.below hb q1.lt
  replace q2 := q2.below hb q2.lt
  replace hga := hga.weaken hB.size
  replace hB := below_trans hB hb
  clear hb
  go_wp2_with fail
  have hba : Below W6.heap.size W6 (W6.alloc (.cells #[Value.slice gaa gan gac] 28)) := below_alloc (Below.refl _ _) _
  have pga := Blk.new W6 28 #[Value.slice gaa gan gac]
  have Hgega := Lib.hid hB.size
  replace hv0 := hv0.keep hba
  replace hv1 := hv1.keep hba
  replace hv2 := hv2.keep hba
  replace h5 := h5.keep hba
  replace hga := hga.keep hba
  replace q0' := q0'.below hba q0'.lt
  replace q1 := q1.below hba q1.lt
  replace q2 := q2.below hba q2.lt
  replace hB := below_trans hB hba
  clear hba
  go_wp2_with fail
  refine (toFodder_fod hv2 (by rw [Hl2.out]; exact hl2) Hs2.out).mono ?_
  rintro e W7 ⟨fd, rfl, hfd, hb⟩
  obtain ⟨fda, fdn, fdc, rfl⟩ := hfd.slice
  have Hlofd : Hid (∀ g, (Value.slice fda fdn fdc).ownBlock = some g → W6.heap.size + 1 ≤ g) := fun g hg => by have := (hfd.lt hg).1; (try simp at this); omega
  have Hhifd : Hid (∀ g, (Value.slice fda fdn fdc).ownBlock = some g → g < W7.heap.size) := fun g hg => (hfd.lt hg).2
  have sW7 : W6.heap.size + 1 ≤ W7.heap.size := by have := hb.size; (try simp at this); omega
  replace hv0 := hv0.keep hb
  replace hv1 := hv1.keep hb
  replace hv2 := hv2.keep hb
  replace h5 := h5.keep hb
  replace hga := hga.keep hb
  replace q0' := q0'.below hb q0'.lt
  replace q1 := q1.below hb q1.lt
  replace q2 := q2.below hb q2.lt
  replace pga := pga.below hb pga.lt
  replace hfd := hfd.weaken hB.size
  replace hB := below_trans hB hb
  clear hb
  go_wp2_with fail
  refine (toFodder_fod hv1 (by rw [Hl1.out]; exact hl1) Hs1.out).mono ?_
  rintro e W8 ⟨fe, rfl, hfe, hb⟩
  obtain ⟨fea, fen, fec, rfl⟩ := hfe.slice
  have Hlofe : Hid (∀ g, (Value.slice fea fen fec).ownBlock = some g → W7.heap.size ≤ g) := fun g hg => by have := (hfe.lt hg).1; (try simp at this); omega
  have Hhife : Hid (∀ g, (Value.slice fea fen fec).ownBlock = some g → g < W8.heap.size) := fun g hg => (hfe.lt hg).2
  have sW8 : W7.heap.size ≤ W8.heap.size := by have := hb.size; (try simp at this); omega
  replace hv0 := hv0.keep hb
  replace hv1 := hv1.keep hb
  replace hv2 := hv2.keep hb
  replace h5 := h5.keep hb
  replace hga := hga.keep hb
  replace hfd := hfd.keep hb
  replace q0' := q0'.below hb q0'.lt
  replace q1 := q1.below hb q1.lt
  replace q2 := q2.below hb q2.lt
  replace pga := pga.below hb pga.lt
  replace hfe := hfe.weaken hB.size
  replace hB := below_trans hB hb
  clear hb
  go_wp2_with fail
  have hne3 : ∀ g, (Value.slice fea fen fec).ownBlock = some g → (Value.slice fda fdn fdc).ownBlock ≠ some g := fun g h1 h2 => by have := Hhifd.out g h2; have := Hlofe.out g h1; omega
  refine (concat_any _ _ _ _ w.heap.size _ hfd hfe hne3 (by rw [Hl2.out, Hl1.out]; omega) hB.size).mono ?_
  rintro e W9 ⟨v9, rfl, h9, hFr, hloc⟩
  have s9 : W8.heap.size ≤ W9.heap.size := hFr.size
  obtain ⟨a9, n9, c9, rfl⟩ := h9.slice
  have Hlo9 : Hid (∀ g, (Value.slice a9 n9 c9).ownBlock = some g → W6.heap.size + 1 ≤ g) := fun g hg => by
    rcases hloc g hg with h | h | h
    · exact Hlofd.out g h
    · have := Hlofe.out g h; omega
    · omega
  replace hv0 := hv0.fr_other hFr (by decide) (by decide) ne_none ne_none
  replace h5 := h5.fr_row hFr (by decide) ne_none ne_none (fun g hg e => by have := Hhi5.out g hg; have := Hlofd.out g e.symm; omega)
  replace hga := hga.fr_row hFr (by decide) ne_none ne_none (fun g hg e => by have := Hhiga.out g hg; have := Hlofd.out g e.symm; omega)
  replace q0' := hFr.other q0' (by simp) (by decide)
  replace q1 := hFr.other q1 (by simp) (by decide)
  replace q2 := hFr.other q2 (by simp) (by decide)
  replace pga := hFr.other pga (by simp) (by decide)
  replace hB := below_fr hB hFr hB.size (fun g hg => by cases hg) (fun g hg => (hfd.lt hg).1)
  clear hFr hloc hfd hfe hne3 hv1 hv2
  go_wp2_with fail
  have hba : Below W9.heap.size W9 (W9.alloc (.cells #[Value.slice a9 n9 c9] 28)) := below_alloc (Below.refl _ _) _
  have p9 := Blk.new W9 28 #[Value.slice a9 n9 c9]
  have Hge9 := Lib.hid hB.size
  replace h5 := h5.keep hba
  replace hga := hga.keep hba
  replace h9 := h9.keep hba
  replace q0' := q0'.below hba q0'.lt
  replace q1 := q1.below hba q1.lt
  replace q2 := q2.below hba q2.lt
  replace pga := pga.below hba pga.lt
  replace hB := below_trans hB hba
  clear hba hv0
  have hne4 : ∀ g, (Value.slice gaa gan gac).ownBlock = some g → (Value.slice a9 n9 c9).ownBlock ≠ some g := fun g h1 h2 => by have := Hhiga.out g h1; have := Hlo9.out g h2; omega
  have hlen4 : (cat (s2.map FEl.el) (s1.map FEl.el)).length + (s0.map FEl.el).length ≤ 4194300 := by
    have h1 := len_cat_le (s2.map FEl.el) (s1.map FEl.el)
    rw [Hl1.out, Hl2.out] at h1
    rw [Hl0.out]
    omega
  refine (move_any W6.heap.size W9.heap.size _ _ _ _ w.heap.size _ pga p9 (by omega) hga h9 hne4 hlen4 hB.size).mono ?_
  rintro e W10 ⟨he, v10, g10, q3, q4, h10, hFr, -⟩
  subst he
  have s10 : W9.heap.size + 1 ≤ W10.heap.size := by have := hFr.size; simp at this; omega
  obtain ⟨a10, n10, c10, rfl⟩ := h10.slice
  replace h5 := h5.fr2row hFr (fun g hg e => by have := Hhi5.out g hg; have := Hlo9.out g e.symm; omega)
  replace q0' := hFr.var q0' (by omega) (by omega)
  replace q1 := hFr.var q1 (by omega) (by omega)
  replace q2 := hFr.var q2 (by omega) (by omega)
  replace hB := below_fr2 hB hFr Hgega.out Hge9.out (fun g hg => (h9.lt hg).1)
  rw [← cat_assoc _ _ _ Hwo.out] at h10
  have hlenc : (cat (s2.map FEl.el) (cat (s1.map FEl.el) (s0.map FEl.el))).length ≤ 4194304 := by
    have h1 := len_cat_le (s2.map FEl.el) (cat (s1.map FEl.el) (s0.map FEl.el))
    have h2 := len_cat_le (s1.map FEl.el) (s0.map FEl.el)
    rw [Hl0.out, Hl1.out] at h2
    rw [Hl2.out] at h1
    omega
  have hshc : Sh (cat (s2.map FEl.el) (cat (s1.map FEl.el) (s0.map FEl.el))) := Hs2.out.cat (Hs1.out.cat Hs0.out)
  have d0 : W10.cell? ⟨W1.heap.size, 0, none⟩ = some (.slice a5 n5 c5) := q0'.cell 0
  have d1 : W10.cell? ⟨W2.heap.size, 0, none⟩ = some (.slice (some ⟨g4, 0, none⟩) 0 0) := q1.cell 0
  have d2 : W10.cell? ⟨W3.heap.size, 0, none⟩ = some (.slice (some ⟨g5, 0, none⟩) 0 0) := q2.cell 0
  have d3 : W10.cell? ⟨W6.heap.size, 0, none⟩ = some (.slice a10 n10 c10) := q3.cell 0
  have d4 : W10.cell? ⟨W9.heap.size, 0, none⟩ = some (.slice (some ⟨g10, 0, none⟩) 0 0) := q4.cell 0
  have H5 := Lib.hid h5
  have H10 := Lib.hid h10
  have HB := Lib.hid hB
  have Hlenc := Lib.hid hlenc
  have Hshc := Lib.hid hshc
  clear hFr hga h9 pga p9 hne4 hlen4 q0' q1 q2 q3 q4 h5 h10 hB hlenc hshc Hlofa Hhifa Hlofb Hhifb Hlofc Hhifc Hlo4 Hhi5 Hloga Hhiga Hlofd Hhifd Hlofe Hhife Hlo9 Hgefa Hgefb Hgefc Hgega Hge9 sW1 sW2 sW3 s4 s5 sW6 sW7 sW8 s9 s10
  go_wp2_with fail
  go_region_held3 (fun w' => w'.cell? ⟨W1.heap.size, 0, none⟩ = some (.slice a5 n5 c5) ∧ w'.cell? ⟨W2.heap.size, 0, none⟩ = some (.slice (some ⟨g4, 0, none⟩) 0 0) ∧ w'.cell? ⟨W3.heap.size, 0, none⟩ = some (.slice (some ⟨g5, 0, none⟩) 0 0) ∧ w'.cell? ⟨W6.heap.size, 0, none⟩ = some (.slice a10 n10 c10) ∧ w'.cell? ⟨W9.heap.size, 0, none⟩ = some (.slice (some ⟨g10, 0, none⟩) 0 0)) (first | exact ⟨d0, d1, d2, d3, d4⟩ | (go_split_ands; exact ⟨cell_later hbs (by assumption), cell_later hbs (by assumption), cell_later hbs (by assumption), cell_later hbs (by assumption), cell_later hbs (by assumption)⟩) | (go_split_ands; exact ⟨cell_later hbg (by assumption), cell_later hbg (by assumption), cell_later hbg (by assumption), cell_later hbg (by assumption), cell_later hbg (by assumption)⟩) | (go_split_ands; exact ⟨cell_later hbr (by assumption), cell_later hbr (by assumption), cell_later hbr (by assumption), cell_later hbr (by assumption), cell_later hbr (by assumption)⟩) | assumption) (first
    | (go_at_call_of 18 (Value.slice a5 n5 c5); refine (fromFodder_fod (base := w.heap.size) (T := 36) (by first | exact H5.out.keep (Below.drew (Below.refl _ _)) | exact (H5.out.keep (Below.drew (Below.refl _ _))).keep hbr) Hlenc.out Hshc.out).mono ?_; rintro e wg ⟨vg, rfl, hvg, hbg⟩)
    | (go_at_call_of 18 (Value.slice a10 n10 c10); refine (fromFodder_fod (base := w.heap.size) (T := 36) (by first | exact H10.out.keep (Below.drew (Below.refl _ _)) | exact (H10.out.keep (Below.drew (Below.refl _ _))).keep hbg) Hlenc.out Hshc.out).mono ?_; rintro e wf ⟨vf, rfl, hvf, hbr⟩)
    | (go_at_call 17; refine (sameFEs_fod (by first | exact hvg | exact hvg.keep hbr) (by first | exact hvf | exact hvf.keep hbg)).mono ?_; rintro e ws ⟨rfl, hbs⟩))
  all_goals
    go_wp2_with fail
    go_ret
    refine ⟨rfl, below_trans ?_ hbs⟩
    first
      | exact below_trans (below_trans (Below.drew HB.out) hbg) hbr
      | exact below_trans (below_trans (Below.drew HB.out) hbr) hbg
end Go.Proofs.YtnagdbnfdedejaaFmt.fnFodderMoveFrontTwiceIsOnce
