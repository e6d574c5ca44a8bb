/- The walk of FnFodderMoveFrontModel. (Written by wip/gen55w.py.) -/
import Derived.Test.YtnagdbnfdedejaaFmtFnFodderMoveFrontModelB
import Derived.Test.YtnagdbnfdedejaaFmtC55Wrap
import Derived.Test.YtnagdbnfdedejaaFmtC55Model
import Derived.Test.YtnagdbnfdedejaaFmtCFodMove
import Derived.Deep.RegionHeld3
namespace Go.Proofs.YtnagdbnfdedejaaFmt.fnFodderMoveFrontModel
open Go.ChangeShapes Go.WideShapes Go.ChangeAt Go.RowKit
set_option linter.unusedVariables false

theorem fold_take {la lb : List El} {k : Nat} {x : El} (h : lb[k]? = some x) : app ((lb.take k).foldl app la) x = (lb.take (k + 1)).foldl app la := by
  rw [List.take_add_one, h]
  simp
theorem fold_len (la r : List El) : (r.foldl app la).length ≤ la.length + 2 * r.length := by
  induction r generalizing la with
  | nil => simp
  | cons x r ih =>
    have h1 := ih (app la x)
    have h2 := len_app la x
    rw [List.foldl_cons, List.length_cons]
    omega
/-- What the rounds keep. -/
structure LoopI (w : World) (va vb : Value) (la lb lw : List El) (vw : Value) (wr : World) : Prop where
  bel : Below w.heap.size w wr
  fa : Fodd 9 39 w.heap.size wr va la
  fb : Fodd 9 39 w.heap.size wr vb lb
  fw : Fodd 9 39 w.heap.size wr vw lw

set_option maxRecDepth 20000 in
set_option maxHeartbeats 3200000 in
theorem walk (a0 : Option Addr) (len0 cap0 : Nat) (s0 : List FEl) (a1 : Option Addr) (len1 cap1 : Nat) (s1 : List FEl) (w : World) (w0 : IsFEs w a0 len0 cap0 s0) (w1 : IsFEs w a1 len1 cap1 s1) :
    Calls Tryf.prog 4 #[.slice a0 len0 cap0, .slice a1 len1 cap1] w fun e w' => e = .returned (.bool true) ∧ Below w.heap.size w w' := by
  go_enter Tryf.func4, Tryf.ntmps4
  go_wp2_with fail
  refine (bytes_any _ _ _ _ _ _ _ _ _ w0 w1).mono ?_
  rintro e w' ⟨r, rfl, hr, rfl⟩
  cases r
  · go_wp2_with fail
    go_ret
    exact ⟨rfl, Below.refl _ _⟩
  obtain ⟨hl0, hup0, hl1, hup1⟩ := hr rfl
  clear hr
  have Hup0 := Lib.hid hup0
  have Hs0 := Lib.hid (sh_of_upto w0 hup0)
  have Hl0 : Hid ((s0.map FEl.el).length = len0) := by simp [Hid, w0.len]
  clear hup0
  have Hup1 := Lib.hid hup1
  have Hs1 := Lib.hid (sh_of_upto w1 hup1)
  have Hl1 : Hid ((s1.map FEl.el).length = len1) := by simp [Hid, w1.len]
  clear hup1
  have hB : Below w.heap.size w w := Below.refl _ _
  go_wp2_with fail
  refine (fesBytes_any _ _ _ s0 _ (w0.keep hB)).mono ?_
  rintro e ww ⟨mm0, rfl, hm0, hm0', hb⟩
  replace hB := below_trans hB hb
  clear hb
  go_wp2_with fail
  refine (fesBytes_any _ _ _ s1 _ (w1.keep hB)).mono ?_
  rintro e ww ⟨mm1, rfl, hm1, hm1', hb⟩
  replace hB := below_trans hB hb
  clear hb
  go_wp2_with fail
  all_goals try (go_ret; exact ⟨rfl, hB⟩)
  refine (wellOrdered_any _ _ _ s0 _ (w0.keep hB)).mono ?_
  rintro e ww ⟨r, rfl, hr, hb⟩
  have Hr := Lib.hid hr
  replace hB := below_trans hB hb
  clear hr hb
  cases r
  · go_wp2_with fail
    all_goals (go_ret; exact ⟨rfl, hB⟩)
  have Hwo := Lib.hid (Hr.out.1 rfl)
  clear Hr
  go_wp2_with fail
  clear hm0 hm0' hm1 hm1'
  refine (cloneFEs_any _ _ _ s0 _ (w0.keep hB) hl0 Hup0.out).mono ?_
  rintro e ww ⟨v0, rfl, hv0, hb⟩
  replace hv0 := hv0.weaken hB.size
  replace hB := below_trans hB hb
  clear hb
  go_wp2_with fail
  refine (cloneFEs_any _ _ _ s1 _ (w1.keep hB) hl1 Hup1.out).mono ?_
  rintro e ww ⟨v1, rfl, hv1, hb⟩
  replace hv1 := hv1.weaken hB.size
  replace hv0 := hv0.keep hb
  replace hB := below_trans hB hb
  clear hb
  go_wp2_with fail
  clear w0 w1 Hup0 Hup1
  refine (cloneFEs_fod hv1 (by rw [Hl1.out]; exact hl1) Hs1.out).mono ?_
  rintro e w9 ⟨vw, rfl, hvw, hb⟩
  replace hvw := hvw.weaken hB.size
  replace hv0 := hv0.keep hb
  replace hv1 := hv1.keep hb
  replace hB := below_trans hB hb
  clear hb
  obtain ⟨aa, capa, fsa, rfl, -, -, -, -⟩ := hv0.form
  obtain ⟨n, hn⟩ : ∃ n, n = (s0.map FEl.el).length := ⟨_, rfl⟩
  have hn1 : n ≤ 1048576 := by rw [hn, Hl0.out]; exact hl0
  rw [← hn] at hv0 ⊢
  have HI0 : Hid (LoopI w (.slice aa n capa) v1 (s0.map FEl.el) (s1.map FEl.el) (s1.map FEl.el) vw w9) := ⟨hB, hv0, hv1, hvw⟩
  have Hn := Lib.hid hn
  clear hv0 hv1 hvw hB hn
  go_wp2_with fail
  go_loopw [5, 6] (fun v5 i wr => ∃ k : Nat, k ≤ n ∧ i = .int .i64 k ∧ Hid (LoopI w (.slice aa n capa) v1 (s0.map FEl.el) (s1.map FEl.el) (((s0.map FEl.el).take k).foldl app (s1.map FEl.el)) v5 wr)) (fun _ i _ => n - (intOf i).toNat)
  case atStart => exact ⟨0, Nat.zero_le _, rfl, by simpa using HI0⟩
  case round =>
    clear HI0
    obtain ⟨k, hk, rfl, hI⟩ := hrel
    by_cases hlt : k < n
    · obtain ⟨a', cap', fs', hv', hI', hmap', _, hel'⟩ := hI.out.fa.form
      rw [← Hn.out] at hI' hv'
      injection hv' with hv1 hv2 hv3
      subst hv1
      obtain ⟨b, off, x, rfl, hblt, hx, hfe, c0, c1, c2, c3⟩ := hI'.at_ hlt
      have Hx : Hid ((s0.map FEl.el)[k]? = some x.el) := by have := el_at hx; rw [hmap'] at this; exact this
      have Hxe := Lib.hid (hel' x (List.mem_of_getElem? hx))
      have hlen : (((s0.map FEl.el).take k).foldl app (s1.map FEl.el)).length ≤ 4194000 := by
        have h1 := fold_len (s1.map FEl.el) ((s0.map FEl.el).take k)
        have h2 := List.length_take_le k (s0.map FEl.el)
        rw [Hl1.out] at h1
        omega
      clear hx hmap' hI' hv2 hv3 hel' hfe
      go_wp2_with fail
      refine (modelAppend_any _ _ w.heap.size x _ hI.out.fw Hxe.out hlen).mono ?_
      rintro e w2' ⟨v2, rfl, hv2, hb⟩
      have HI3 : Hid (LoopI w (.slice (some ⟨b, off, none⟩) n capa) v1 (s0.map FEl.el) (s1.map FEl.el) (((s0.map FEl.el).take (k + 1)).foldl app (s1.map FEl.el)) v2 w2') := ⟨below_trans hI.out.bel hb, hI.out.fa.keep hb, hI.out.fb.keep hb, by rw [← fold_take Hx.out]; exact hv2.weaken hI.out.bel.size⟩
      clear hI hb hv2 hlen c0 c1 c2 c3
      go_wp2
      exact ⟨⟨k + 1, by omega, by go_num, HI3⟩, by simp [intOf]; omega⟩
    · obtain rfl : k = n := by omega
      have hfin : ((s0.map FEl.el).take k).foldl app (s1.map FEl.el) = cat (s1.map FEl.el) (s0.map FEl.el) := by
        rw [List.take_of_length_le (by rw [Hn.out]; exact Nat.le_refl _), cat_fold _ _ Hwo.out]
      rw [hfin] at hI
      obtain ⟨vw2, hvw2⟩ : ∃ z, z = u5 := ⟨_, rfl⟩
      subst hvw2
      have hB := hI.out.bel
      have hv0 := hI.out.fa
      have hv1 := hI.out.fb
      have hvw := hI.out.fw
      clear hI hfin
      go_wp2_with fail
      refine (toFodder_fod hv0 (by rw [Hl0.out]; exact hl0) Hs0.out).mono ?_
      rintro e w3' ⟨fa, rfl, hfa, hb⟩
      obtain ⟨af, nf, cf, rfl⟩ := hfa.slice
      replace hv1 := hv1.keep hb
      replace hvw := hvw.keep hb
      replace hfa := hfa.weaken hB.size
      replace hB := below_trans hB hb
      clear hb hv0
      have hba : Below w3'.heap.size w3' (w3'.alloc (.cells #[Value.slice af nf cf] 28)) := below_alloc (Below.refl _ _) _
      have hp := Blk.new w3' 28 #[Value.slice af nf cf]
      have Hpb := Lib.hid hB.size
      replace hv1 := hv1.keep hba
      replace hvw := hvw.keep hba
      have Hrow : Hid (∀ g, (Value.slice af nf cf).ownBlock = some g → g < w3'.heap.size) := fun g hg => (hfa.lt hg).2
      replace hfa := hfa.keep hba
      replace hB := below_trans hB hba
      clear hba
      go_wp2_with fail
      refine (toFodder_fod hv1 (by rw [Hl1.out]; exact hl1) Hs1.out).mono ?_
      rintro e w4' ⟨fb, rfl, hfb, hb⟩
      obtain ⟨ag, ng, cg, rfl⟩ := hfb.slice
      have Hne : Hid (∀ g, (Value.slice af nf cf).ownBlock = some g → (Value.slice ag ng cg).ownBlock ≠ some g) := fun g hg e => by have h1 := (hfb.lt e).1; have h2 := Hrow.out g hg; simp at h1; omega
      have Hq4 : Hid (w3'.heap.size < w4'.heap.size) := by have := hb.size; simp at this; simp only [Hid]; omega
      replace hvw := hvw.keep hb
      replace hfa := hfa.keep hb
      replace hp := hp.below hb hp.lt
      replace hfb := hfb.weaken hB.size
      replace hB := below_trans hB hb
      clear hb hv1
      have hbb : Below w4'.heap.size w4' (w4'.alloc (.cells #[Value.slice ag ng cg] 28)) := below_alloc (Below.refl _ _) _
      have hq := Blk.new w4' 28 #[Value.slice ag ng cg]
      have Hqb := Lib.hid hB.size
      have Hpq : Hid (w3'.heap.size ≠ w4'.heap.size) := by have := Hq4.out; simp only [Hid]; omega
      replace hvw := hvw.keep hbb
      replace hfa := hfa.keep hbb
      replace hfb := hfb.keep hbb
      replace hp := hp.below hbb hp.lt
      replace hB := below_trans hB hbb
      clear hbb
      go_wp2_with fail
      refine (move_any w3'.heap.size w4'.heap.size _ _ _ _ w.heap.size _ hp hq Hpq.out hfa hfb Hne.out (by rw [Hl0.out, Hl1.out]; omega) hB.size).mono ?_
      rintro e w5' ⟨he, va', g, hp5, hq5, hva5, hFr5, hloc5⟩
      subst he
      replace hvw := hvw.fr2 hFr5
      replace hB := below_fr2 hB hFr5 Hpb.out Hqb.out (fun g hg => (hfb.lt hg).1)
      obtain ⟨a6, n6, c6, rfl⟩ := hva5.slice
      have cp5 : w5'.cell? ⟨w3'.heap.size, 0, none⟩ = some (.slice a6 n6 c6) := hp5.cell 0
      have cq5 : w5'.cell? ⟨w4'.heap.size, 0, none⟩ = some (.slice (some ⟨g, 0, none⟩) 0 0) := hq5.cell 0
      have hnil := fun W => run_neq_slice_nil_any (P := Tryf.prog) W 28 36 (some ⟨g, 0, none⟩) 0 0 0 0 Tryf.underlying28
      have hlenc : (cat (s1.map FEl.el) (s0.map FEl.el)).length ≤ 4194304 := by
        have h1 := len_cat_le (s1.map FEl.el) (s0.map FEl.el)
        rw [Hl0.out, Hl1.out] at h1
        omega
      have hshc : Sh (cat (s1.map FEl.el) (s0.map FEl.el)) := Hs1.out.cat Hs0.out
      clear hfa hfb hp hq hFr5 hloc5 hp5 hq5 Hpb Hqb Hpq Hne Hrow Hq4
      go_wp2_with fail
      refine (fromFodder_fod hva5 hlenc hshc).mono ?_
      rintro e w6' ⟨vf, rfl, hvf, hb⟩
      replace hvw := hvw.keep hb
      replace hB := below_trans hB hb
      clear hb hlenc hshc hva5
      go_wp2_with fail
      refine (sameFEs_fod hvf hvw).mono ?_
      rintro e w7' ⟨rfl, hb⟩
      go_wp2_with fail
      go_ret
      exact ⟨rfl, below_trans hB hb⟩
end Go.Proofs.YtnagdbnfdedejaaFmt.fnFodderMoveFrontModel
