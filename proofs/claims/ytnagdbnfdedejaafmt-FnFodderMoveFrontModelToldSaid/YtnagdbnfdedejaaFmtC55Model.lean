/- modelAppend: the case table, as FodderAppend on lists. -/
import Derived.Test.YtnagdbnfdedejaaFmtC55Wrap
import Derived.Test.YtnagdbnfdedejaaFmtCFodClean
namespace Go.Proofs.YtnagdbnfdedejaaFmt
open Go.ChangeShapes Go.WideShapes Go.ChangeAt Go.RowKit
set_option linter.unusedVariables false

theorem below_grownF {a w w' : World} {r : Option Nat} (h : Below a.heap.size a w) (hg : w.grownBy w' r) (hr : ∀ g, r = some g → a.heap.size ≤ g) : Below a.heap.size a w' :=
  h.trans ⟨hg.os, hg.tape, hg.output, hg.size, fun k hk => hg.block k (Nat.lt_of_lt_of_le hk h.size) (fun e => by have := hr k e.symm; omega)⟩
theorem fodd_made0 {S T base : Nat} (w : World) (c : Nat) (hb : base ≤ w.heap.size) (hc : c ≤ maxLen) : Fodd S T base (w.alloc (.cells (cellsL (List.replicate c zFEl)).toArray T)) (.slice (some ⟨w.heap.size, 0, none⟩) 0 c) [] :=
  ⟨[], World.ownsRow_made w _ c hb hc (by simp [cellsL_len]), fun x hx => by simp at hx, rfl⟩
theorem leElM {S : TypeId} {w : World} {g : Nat} {idt : Int} (hwi : (Lit.int .i64 idt).wf = true) (hE : Blk w g S #[]) : IsEl S w ⟨some ⟨g, 0, none⟩, 0, 0, [], 0, 0, idt⟩ :=
  ⟨⟨⟨rfl, Nat.le_refl _, Nat.zero_le _, (fun k s hs => by simp at hs), (fun h => by cases h), fun hn => absurd hn (by simp)⟩, rfl, rfl, hwi⟩, fun a ha => by
    injection ha with ha
    subst ha
    exact ⟨_, hE⟩⟩

/-- What the copying rounds keep: a row of the call's own, the boxed element. -/
structure MdI (w : World) (bx : Array Value) (ls : List El) (v : Value) (wr : World) : Prop where
  fod : Fodd 9 39 (w.heap.size + 1) wr v ls
  bel : Below w.heap.size w wr
  box : Blk wr w.heap.size 39 bx
theorem MdI.step {w wr W w1 : World} {bx : Array Value} {ls ls' : List El} {v v' : Value} (h : MdI w bx ls v wr) (hb : Below wr.heap.size wr W) (hg : W.grownBy w1 v.ownBlock) (hF : Fodd 9 39 (w.heap.size + 1) w1 v' ls') : MdI w bx ls' v' w1 :=
  ⟨hF, below_grownF (below_trans h.bel hb) hg (fun g hg' => by have := (h.fod.lt hg').1; omega), (h.box.below hb h.box.lt).grownF hg (fun e => by have := (h.fod.lt e.symm).1; omega)⟩

set_option maxRecDepth 20000 in
set_option maxHeartbeats 3200000 in
theorem modelAppend_any (va : Value) (la : List El) (base : Nat) (y : FEl) (w : World) (hA : Fodd 9 39 base w va la) (hy : IsEl 9 w y) (hl : la.length ≤ 4194000) :
    Calls Tryf.prog 20 #[va, y.agg] w (FodPost 9 39 (app la y.el) w) := by
  obtain ⟨ca, cl, cc, cs, kd, bl, idt⟩ := y
  obtain ⟨aa, capa, fa, rfl, hIa, hmapa, hforma, hela⟩ := hA.form
  obtain ⟨n, hn⟩ : ∃ n, n = la.length := ⟨_, rfl⟩
  rw [← hn] at hIa hl hA ⊢
  have Hn := Lib.hid hn
  have hmk : ∀ W : World, (Instr.makeSlice 22 (.int .i64 0) (.int .i64 ((n : Int) + 2))).run Tryf.prog W = .ok (.slice (some ⟨W.heap.size, 0, none⟩) 0 (n + 2)) (W.alloc (.cells (cellsL (List.replicate (n + 2) zFEl)).toArray 39)) := fun W => by
    have := make_fod (P := Tryf.prog) Tryf.underlying22 (e := 39) (by kernel_rfl) 0 (n + 2) (Nat.zero_le _) (by omega) W
    simpa using this
  have hinfo : (Tryf.prog.info? 39).map (fun i => (i.zero, i.size, i.bytes)) = some (some (.agg #[.slice none 0 0, .int .i64 0, .int .i64 0, .int .i64 0]), 4, 48) := by kernel_rfl
  have Hinfo := Lib.hid hinfo
  have HIa := Lib.hid hIa
  have Hmapa := Lib.hid hmapa
  have Hela := Lib.hid hela
  have HA := Lib.hid hA
  have Hy := Lib.hid hy
  clear hn hinfo hIa hmapa hela hA hy
  unfold FEl.agg
  dsimp only
  have hb0 : Below w.heap.size w (w.alloc (.cells #[.slice ca cl cc, .int .i64 kd, .int .i64 bl, .int .i64 idt] 39)) := below_alloc (Below.refl _ _) _
  have hI0 : MdI w #[.slice ca cl cc, .int .i64 kd, .int .i64 bl, .int .i64 idt] [] (.slice (some ⟨w.heap.size + 1, 0, none⟩) 0 (n + 2)) ((w.alloc (.cells #[.slice ca cl cc, .int .i64 kd, .int .i64 bl, .int .i64 idt] 39)).alloc (.cells (cellsL (List.replicate (n + 2) zFEl)).toArray 39)) := by
    refine ⟨?_, below_alloc hb0 _, (Blk.new w _ _).alloc _⟩
    have h := fodd_made0 (S := 9) (T := 39) (base := w.heap.size + 1) (w.alloc (.cells #[.slice ca cl cc, .int .i64 kd, .int .i64 bl, .int .i64 idt] 39)) (n + 2) (by simp) (by unfold maxLen; omega)
    simpa using h
  have HI0 := Lib.hid hI0
  clear hI0 hb0
  go_enter Tryf.func20, Tryf.ntmps20
  go_wp2_with fail
  go_loopw [5, 6] (fun v5 i wr => ∃ k : Nat, k ≤ n ∧ i = .int .i64 k ∧ Hid (MdI w #[.slice ca cl cc, .int .i64 kd, .int .i64 bl, .int .i64 idt] (la.take k) v5 wr)) (fun _ i _ => n - (intOf i).toNat)
  case atStart => exact ⟨0, Nat.zero_le _, rfl, by simpa using HI0⟩
  case round =>
    clear HI0
    obtain ⟨k, hk, rfl, hI⟩ := hrel
    obtain ⟨av, nv, cv, rfl⟩ := hI.out.fod.slice
    by_cases hlt : k < n
    · obtain ⟨b, off, x, rfl, hblt, hx, hfe, c0, c1, c2, c3⟩ := (HIa.out.keep hI.out.bel).at_ hlt
      have hxe := (Hela.out x (List.mem_of_getElem? hx)).keep hI.out.bel
      have Hst : Hid (la.take k ++ [x.el] = la.take (k + 1)) := by
        have h1 := el_at hx
        rw [Hmapa.out] at h1
        simp only [Hid]
        rw [List.take_add_one, h1]
        rfl
      obtain ⟨xa, xl, xc, xs, xk, xb, xi⟩ := x
      dsimp only at c0 c1 c2 c3
      have hb2 : Below wr.heap.size wr (wr.alloc (.cells #[.slice xa xl xc, .int .i64 xk, .int .i64 xb, .int .i64 xi] 39)) := below_alloc (Below.refl _ _) _
      have HF2 := Lib.hid (hI.out.fod.keep hb2)
      have Hy2 := Lib.hid (hxe.keep hb2)
      have Hz2 : Hid (w.heap.size + 1 ≤ (wr.alloc (.cells #[.slice xa xl xc, .int .i64 xk, .int .i64 xb, .int .i64 xi] 39)).heap.size) := by have := hI.out.box.lt; simp [Hid]; omega
      have Hl2 : Hid ((la.take k).length ≤ 4194304) := by have := List.length_take_le k la; simp only [Hid]; omega
      have Hb2 := Lib.hid hb2
      clear hx hfe hxe hb2
      go_wp2_with (at_builtin; refine wpList_append_fod rfl _ _ 22 rfl 9 39 (by decide) Tryf.underlying22 Hinfo.out (w.heap.size + 1) _ (la.take k) xa xl xc xs xk xb xi _ 1 rfl HF2.out rfl Hy2.out (news4 wr _ _ rfl _ _ _ _) Hl2.out Hz2.out ?_; intro v1 w1 hF1 hg1 hl1)
      have HI3 : Hid (MdI w #[.slice ca cl cc, .int .i64 kd, .int .i64 bl, .int .i64 idt] (la.take (k + 1)) v1 w1) := by
        have h := hI.out.step Hb2.out hg1 hF1
        have e : la.take k ++ [(⟨xa.isNone, xs, xk, xb, xi⟩ : El)] = la.take (k + 1) := Hst.out
        rw [e] at h
        exact h
      exact ⟨⟨k + 1, by omega, by go_num, HI3⟩, by simp [intOf]; omega⟩
    · obtain rfl : k = n := by omega
      have HI : Hid (MdI w #[.slice ca cl cc, .int .i64 kd, .int .i64 bl, .int .i64 idt] la (.slice av nv cv) wr) := by
        have h := hI.out
        rw [List.take_of_length_le (by rw [Hn.out]; exact Nat.le_refl _)] at h
        exact h
      clear hI hlt hk
      have hnv : nv = k := by
        obtain ⟨a9, c9, f9, hv9, _⟩ := HI.out.fod.form
        injection hv9 with _ h2 _
        have := Hn.out
        omega
      subst hnv
      have bx0 : wr.cell? ⟨w.heap.size, 0, none⟩ = some (.slice ca cl cc) := HI.out.box.cell 0
      have bx1 : wr.cell? ⟨w.heap.size, 1, none⟩ = some (.int .i64 kd) := HI.out.box.cell 1
      have bx2 : wr.cell? ⟨w.heap.size, 2, none⟩ = some (.int .i64 bl) := HI.out.box.cell 2
      have bx3 : wr.cell? ⟨w.heap.size, 3, none⟩ = some (.int .i64 idt) := HI.out.box.cell 3
      have lbx : w.heap.size < wr.heap.size := HI.out.box.lt
      have HIa' := Lib.hid (HIa.out.keep HI.out.bel)
      clear HIa hforma
      cases hnk : nv with
      | zero =>
        subst hnk
        obtain rfl : la = [] := List.eq_nil_of_length_eq_zero Hn.out.symm
        have Hcl : Hid (closed ([] : List El) = false) := rfl
        generalize hla : ([] : List El) = la at *
        by_cases hk2 : kd = 2
        · subst hk2
          have hb2 : Below wr.heap.size wr ((wr.alloc (.cells #[] 9)).alloc (.cells #[.slice (some ⟨wr.heap.size, 0, none⟩) 0 0, .int .i64 0, .int .i64 0, .int .i64 idt] 39)) := below_alloc (below_alloc (Below.refl _ _) _) _
          have hE : Blk ((wr.alloc (.cells #[] 9)).alloc (.cells #[.slice (some ⟨wr.heap.size, 0, none⟩) 0 0, .int .i64 0, .int .i64 0, .int .i64 idt] 39)) wr.heap.size 9 #[] := (Blk.new wr 9 #[]).alloc _
          have HF2 := Lib.hid (HI.out.fod.keep hb2)
          have Hy2 := Lib.hid (leElM Hy.out.fe.wi hE)
          have Hz2 : Hid (w.heap.size + 1 ≤ ((wr.alloc (.cells #[] 9)).alloc (.cells #[.slice (some ⟨wr.heap.size, 0, none⟩) 0 0, .int .i64 0, .int .i64 0, .int .i64 idt] 39)).heap.size) := by have := HI.out.box.lt; simp [Hid]; omega
          have Hl2 : Hid (la.length ≤ 4194304) := by have := Hn.out; simp only [Hid]; omega
          have Hb2 := Lib.hid hb2
          clear hb2 hE
          go_wp2_with (at_builtin; first | (refine wpList_append_fod rfl _ _ 22 rfl 9 39 (by decide) Tryf.underlying22 Hinfo.out (w.heap.size + 1) _ la (some ⟨wr.heap.size, 0, none⟩) 0 0 [] 0 0 idt _ 1 rfl HF2.out rfl Hy2.out (news4 (wr.alloc (.cells #[] 9)) _ _ (by simp) _ _ _ _) Hl2.out Hz2.out ?_; intro v1 w1 hF1 hg1 hl1; have h3 := HI.out.step Hb2.out hg1 hF1; have hy3 := Hy.out.keep h3.bel; have hb4 : Below w1.heap.size w1 (w1.alloc (.cells #[.slice ca cl cc, .int .i64 2, .int .i64 bl, .int .i64 idt] 39)) := (below_alloc (Below.refl _ _) _); obtain ⟨a5, n5, c5, rfl⟩ := h3.fod.slice; have bx0 : w1.cell? ⟨w.heap.size, 0, none⟩ = some (.slice ca cl cc) := h3.box.cell 0; have bx1 : w1.cell? ⟨w.heap.size, 1, none⟩ = some (.int .i64 2) := h3.box.cell 1; have bx2 : w1.cell? ⟨w.heap.size, 2, none⟩ = some (.int .i64 bl) := h3.box.cell 2; have bx3 : w1.cell? ⟨w.heap.size, 3, none⟩ = some (.int .i64 idt) := h3.box.cell 3; have HF5 := Lib.hid (h3.fod.keep hb4); have Hy5 := Lib.hid (hy3.keep hb4); have Hz5 : Hid (w.heap.size + 1 ≤ (w1.alloc (.cells #[.slice ca cl cc, .int .i64 2, .int .i64 bl, .int .i64 idt] 39)).heap.size) := (by have := h3.box.lt; simp [Hid]; omega); have Hl5 : Hid ((la ++ [(⟨false, [], 0, 0, idt⟩ : El)]).length ≤ 4194304) := (by have := Hn.out; simp [Hid]; omega); have H3 := Lib.hid h3; have Hb4 := Lib.hid hb4; clear hF1 hg1 hl1 hy3 hb4 h3) | (refine wpList_append_fod rfl _ _ 22 rfl 9 39 (by decide) Tryf.underlying22 Hinfo.out (w.heap.size + 1) _ (la ++ [(⟨false, [], 0, 0, idt⟩ : El)]) ca cl cc cs 2 bl idt _ 1 rfl HF5.out rfl Hy5.out (news4 _ _ _ rfl _ _ _ _) Hl5.out Hz5.out ?_; intro v6 w6 hF6 hg6 hl6))
          go_ret
          have h6 := H3.out.step Hb4.out hg6 hF6
          have ha : app la (FEl.el ⟨ca, cl, cc, cs, 2, bl, idt⟩) = la ++ [⟨false, [], 0, 0, idt⟩] ++ [⟨ca.isNone, cs, 2, bl, idt⟩] := by
            have hne : ¬ Mrgs la (FEl.el ⟨ca, cl, cc, cs, 2, bl, idt⟩) := fun h => by have h3 := h.2.1; cases h3
            rw [app_tail hne, Hcl.out, List.append_assoc]
            rfl
          exact ⟨v6, rfl, by rw [ha]; exact h6.fod.weaken (by omega), h6.bel⟩
        · have e2 : (kd == 2) = false := by simpa using hk2
          have Hk2 := Lib.hid hk2
          clear hk2
          have hb2 : Below wr.heap.size wr (wr.alloc (.cells #[.slice ca cl cc, .int .i64 kd, .int .i64 bl, .int .i64 idt] 39)) := below_alloc (Below.refl _ _) _
          have HF2 := Lib.hid (HI.out.fod.keep hb2)
          have Hy2 : Hid (IsEl 9 (wr.alloc (.cells #[.slice ca cl cc, .int .i64 kd, .int .i64 bl, .int .i64 idt] 39)) ⟨ca, cl, cc, cs, kd, bl, idt⟩) := (Hy.out.keep HI.out.bel).keep hb2
          have Hz2 : Hid (w.heap.size + 1 ≤ (wr.alloc (.cells #[.slice ca cl cc, .int .i64 kd, .int .i64 bl, .int .i64 idt] 39)).heap.size) := by have := HI.out.box.lt; simp [Hid]; omega
          have Hl2 : Hid (la.length ≤ 4194304) := by have := Hn.out; simp only [Hid]; omega
          have Hb2 := Lib.hid hb2
          clear hb2
          go_wp2_with (at_builtin; refine wpList_append_fod rfl _ _ 22 rfl 9 39 (by decide) Tryf.underlying22 Hinfo.out (w.heap.size + 1) _ la ca cl cc cs kd bl idt _ 1 rfl HF2.out rfl Hy2.out (news4 wr _ _ rfl _ _ _ _) Hl2.out Hz2.out ?_; intro v1 w1 hF1 hg1 hl1)
          go_ret
          have h3 := HI.out.step Hb2.out hg1 hF1
          have ha : app la (FEl.el ⟨ca, cl, cc, cs, kd, bl, idt⟩) = la ++ [⟨ca.isNone, cs, kd, bl, idt⟩] := app_fits ⟨fun _ => Hcl.out, fun h => absurd h Hk2.out⟩
          exact ⟨v1, rfl, by rw [ha]; exact h3.fod.weaken (by omega), h3.bel⟩
      | succ j =>
        subst hnk
        obtain ⟨b, off, x, rfl, hblt, hx, hfe, c0, c1, c2, c3⟩ := HIa'.out.at_ (show j < j + 1 by omega)
        have Hx : Hid (la[j]? = some x.el) := by have := el_at hx; rw [Hmapa.out] at this; exact this
        have hcl : closed la = !(x.kind == 1) := by rw [← Hmapa.out]; exact closed_at (by rw [HIa'.out.len]) hx
        have i1 : (0 : Int) < (j : Int) + 1 := by omega
        clear hx hfe c0 c2 c3
        by_cases hk1 : x.kind = 1
        · have Hcl : Hid (closed la = false) := by simp only [Hid]; rw [hcl, hk1]; rfl
          rw [hk1] at c1
          clear hk1 hcl
          by_cases hk2 : kd = 2
          · subst hk2
            have hb2 : Below wr.heap.size wr ((wr.alloc (.cells #[] 9)).alloc (.cells #[.slice (some ⟨wr.heap.size, 0, none⟩) 0 0, .int .i64 0, .int .i64 0, .int .i64 idt] 39)) := below_alloc (below_alloc (Below.refl _ _) _) _
            have hE : Blk ((wr.alloc (.cells #[] 9)).alloc (.cells #[.slice (some ⟨wr.heap.size, 0, none⟩) 0 0, .int .i64 0, .int .i64 0, .int .i64 idt] 39)) wr.heap.size 9 #[] := (Blk.new wr 9 #[]).alloc _
            have HF2 := Lib.hid (HI.out.fod.keep hb2)
            have Hy2 := Lib.hid (leElM Hy.out.fe.wi hE)
            have Hz2 : Hid (w.heap.size + 1 ≤ ((wr.alloc (.cells #[] 9)).alloc (.cells #[.slice (some ⟨wr.heap.size, 0, none⟩) 0 0, .int .i64 0, .int .i64 0, .int .i64 idt] 39)).heap.size) := by have := HI.out.box.lt; simp [Hid]; omega
            have Hl2 : Hid (la.length ≤ 4194304) := by have := Hn.out; simp only [Hid]; omega
            have Hb2 := Lib.hid hb2
            clear hb2 hE
            go_wp2_with (at_builtin; first | (refine wpList_append_fod rfl _ _ 22 rfl 9 39 (by decide) Tryf.underlying22 Hinfo.out (w.heap.size + 1) _ la (some ⟨wr.heap.size, 0, none⟩) 0 0 [] 0 0 idt _ 1 rfl HF2.out rfl Hy2.out (news4 (wr.alloc (.cells #[] 9)) _ _ (by simp) _ _ _ _) Hl2.out Hz2.out ?_; intro v1 w1 hF1 hg1 hl1; have h3 := HI.out.step Hb2.out hg1 hF1; have hy3 := Hy.out.keep h3.bel; have hb4 : Below w1.heap.size w1 (w1.alloc (.cells #[.slice ca cl cc, .int .i64 2, .int .i64 bl, .int .i64 idt] 39)) := (below_alloc (Below.refl _ _) _); obtain ⟨a5, n5, c5, rfl⟩ := h3.fod.slice; have bx0 : w1.cell? ⟨w.heap.size, 0, none⟩ = some (.slice ca cl cc) := h3.box.cell 0; have bx1 : w1.cell? ⟨w.heap.size, 1, none⟩ = some (.int .i64 2) := h3.box.cell 1; have bx2 : w1.cell? ⟨w.heap.size, 2, none⟩ = some (.int .i64 bl) := h3.box.cell 2; have bx3 : w1.cell? ⟨w.heap.size, 3, none⟩ = some (.int .i64 idt) := h3.box.cell 3; have HF5 := Lib.hid (h3.fod.keep hb4); have Hy5 := Lib.hid (hy3.keep hb4); have Hz5 : Hid (w.heap.size + 1 ≤ (w1.alloc (.cells #[.slice ca cl cc, .int .i64 2, .int .i64 bl, .int .i64 idt] 39)).heap.size) := (by have := h3.box.lt; simp [Hid]; omega); have Hl5 : Hid ((la ++ [(⟨false, [], 0, 0, idt⟩ : El)]).length ≤ 4194304) := (by have := Hn.out; simp [Hid]; omega); have H3 := Lib.hid h3; have Hb4 := Lib.hid hb4; clear hF1 hg1 hl1 hy3 hb4 h3) | (refine wpList_append_fod rfl _ _ 22 rfl 9 39 (by decide) Tryf.underlying22 Hinfo.out (w.heap.size + 1) _ (la ++ [(⟨false, [], 0, 0, idt⟩ : El)]) ca cl cc cs 2 bl idt _ 1 rfl HF5.out rfl Hy5.out (news4 _ _ _ rfl _ _ _ _) Hl5.out Hz5.out ?_; intro v6 w6 hF6 hg6 hl6))
            go_ret
            have h6 := H3.out.step Hb4.out hg6 hF6
            have ha : app la (FEl.el ⟨ca, cl, cc, cs, 2, bl, idt⟩) = la ++ [⟨false, [], 0, 0, idt⟩] ++ [⟨ca.isNone, cs, 2, bl, idt⟩] := by
              have hne : ¬ Mrgs la (FEl.el ⟨ca, cl, cc, cs, 2, bl, idt⟩) := fun h => by have h3 := h.2.1; cases h3
              rw [app_tail hne, Hcl.out, List.append_assoc]
              rfl
            exact ⟨v6, rfl, by rw [ha]; exact h6.fod.weaken (by omega), h6.bel⟩
          · have e2 : (kd == 2) = false := by simpa using hk2
            have Hk2 := Lib.hid hk2
            clear hk2
            have hb2 : Below wr.heap.size wr (wr.alloc (.cells #[.slice ca cl cc, .int .i64 kd, .int .i64 bl, .int .i64 idt] 39)) := below_alloc (Below.refl _ _) _
            have HF2 := Lib.hid (HI.out.fod.keep hb2)
            have Hy2 : Hid (IsEl 9 (wr.alloc (.cells #[.slice ca cl cc, .int .i64 kd, .int .i64 bl, .int .i64 idt] 39)) ⟨ca, cl, cc, cs, kd, bl, idt⟩) := (Hy.out.keep HI.out.bel).keep hb2
            have Hz2 : Hid (w.heap.size + 1 ≤ (wr.alloc (.cells #[.slice ca cl cc, .int .i64 kd, .int .i64 bl, .int .i64 idt] 39)).heap.size) := by have := HI.out.box.lt; simp [Hid]; omega
            have Hl2 : Hid (la.length ≤ 4194304) := by have := Hn.out; simp only [Hid]; omega
            have Hb2 := Lib.hid hb2
            clear hb2
            go_wp2_with (at_builtin; refine wpList_append_fod rfl _ _ 22 rfl 9 39 (by decide) Tryf.underlying22 Hinfo.out (w.heap.size + 1) _ la ca cl cc cs kd bl idt _ 1 rfl HF2.out rfl Hy2.out (news4 wr _ _ rfl _ _ _ _) Hl2.out Hz2.out ?_; intro v1 w1 hF1 hg1 hl1)
            go_ret
            have h3 := HI.out.step Hb2.out hg1 hF1
            have ha : app la (FEl.el ⟨ca, cl, cc, cs, kd, bl, idt⟩) = la ++ [⟨ca.isNone, cs, kd, bl, idt⟩] := app_fits ⟨fun _ => Hcl.out, fun h => absurd h Hk2.out⟩
            exact ⟨v1, rfl, by rw [ha]; exact h3.fod.weaken (by omega), h3.bel⟩
        · have Hcl : Hid (closed la = true) := by simp only [Hid]; rw [hcl]; simp [hk1]
          have e1 : (x.kind != 1) = true := by simpa using hk1
          clear hk1 hcl
          by_cases hk0 : kd = 0
          · subst hk0
            rcases Nat.eq_zero_or_pos cl with hcl0 | hcl0
            · subst hcl0
              have hb9 : ∀ o, Below wr.heap.size wr (wr.alloc o) := fun o => below_alloc (Below.refl _ _) o
              have hF9 := HI.out.fod.keep (hb9 (.cells #[.slice x.ca x.clen x.ccap, .int .i64 x.kind, .int .i64 (wrap64 (x.blanks + bl)), .int .i64 idt] 39))
              obtain ⟨gv, rfl⟩ : ∃ gv, av = some ⟨gv, 0, none⟩ := by
                obtain ⟨a9, c9, f9, hv9, hI9, _, hf9, _⟩ := HI.out.fod.form
                injection hv9 with h1 h2 h3
                rcases hf9 with h | ⟨g, h⟩
                · subst h; have := hI9.nil rfl; have := Hn.out; omega
                · exact ⟨g, by rw [h1, h]⟩
              obtain ⟨u0, u1, u2, u3, d0, d1, d2, d3, f0, f1, f2, f3⟩ := HI.out.fod.at4 (show j < j + 1 by omega)
              have hgl : gv < wr.heap.size := (HI.out.fod.lt rfl).2
              have hgn : ¬ gv = wr.heap.size := by omega
              have hgn' : ¬ wr.heap.size = gv := by omega
              obtain ⟨a9, c9, f9, hv9, hI9, hm9, hf9, he9⟩ := HI.out.fod.form
              injection hv9 with h91 h92 h93
              subst h91
              rw [← h92] at hI9
              obtain ⟨b9, o9, z, hz1, _, hz0, _, e0, e1, e2, e3⟩ := hI9.at_ (show j < j + 1 by omega)
              injection hz1 with hz1
              injection hz1 with hz2 hz3
              subst hz2 hz3
              have hzx : z.el = x.el := by
                have h1 := el_at hz0
                rw [hm9] at h1
                exact Option.some.inj (h1.symm.trans Hx.out)
              have hzel := he9 z (List.mem_of_getElem? hz0)
              obtain ⟨za, zl, zc, zs, zk, zb, zi⟩ := z
              rw [Nat.zero_add] at e0 e1 e2 e3
              dsimp only at e0 e1 e2 e3
              rw [d0] at e0
              rw [d1] at e1
              rw [d2] at e2
              rw [d3] at e3
              obtain rfl := Option.some.inj e0
              obtain rfl := Option.some.inj e1
              obtain rfl := Option.some.inj e2
              obtain rfl := Option.some.inj e3
              have Hzx := Lib.hid hzx
              have Hzel := Lib.hid hzel
              have i0 : (0 : Int) ≤ (j : Int) := by omega
              clear e0 e1 e2 e3 hz0 hI9 hm9 he9 hf9 hzx hzel h92 h93 hb9 hF9
              go_wp2_with fail
              go_ret
              have Q1 := Hzx.out
              unfold FEl.el at Q1
              injection Q1 with q1 q2 q3 q4 q5
              dsimp only at q1 q2 q3 q4
              have hP := HI.out.fod.putc (k := j) (y := ⟨za.isNone, zs, zk, wrap64 (zb + bl), idt⟩) (by decide) (show j < j + 1 by omega) (ca := za) (clen := zl) (ccap := zc) (cs := zs) (kd := zk) (bl := wrap64 (zb + bl)) (idt := idt) ⟨⟨Hzel.out.fe.strs, Hzel.out.fe.wk, wrap64_wf _, Hy.out.fe.wi⟩, Hzel.out.own⟩ rfl
              have hcs0 : cs = [] := List.eq_nil_of_length_eq_zero Hy.out.fe.strs.len
              have ha : app la (FEl.el ⟨ca, 0, cc, cs, 0, bl, idt⟩) = la.set j ⟨za.isNone, zs, zk, wrap64 (zb + bl), idt⟩ := by
                have hjl := (List.getElem?_eq_some_iff.1 Hx.out).1
                have hlj : la.length = j + 1 := Hn.out.symm
                rcases List.eq_nil_or_concat la with h | ⟨l', u, h⟩
                · rw [h] at hlj; cases hlj
                · rw [List.concat_eq_append] at h
                  have hl' : l'.length = j := by rw [h] at hlj; simp at hlj; exact hlj
                  have hu : u = x.el := by
                    have h1 := Hx.out
                    rw [h, ← hl', List.getElem?_append_right (Nat.le_refl _), Nat.sub_self] at h1
                    exact Option.some.inj h1
                  have hM : Mrgs (l' ++ [u]) (FEl.el ⟨ca, 0, cc, cs, 0, bl, idt⟩) := ⟨by rw [← h]; exact Hcl.out, rfl, by rw [hcs0]; rfl⟩
                  rw [h, app_mrg hM, ← hl', List.set_append_right _ _ (Nat.le_refl _), Nat.sub_self, List.set_cons_zero, hu]
                  simp [mrg, FEl.el, q1, q2, q3, q4]
              refine ⟨Value.slice (some ⟨gv, 0, none⟩) (j + 1) cv, rfl, ?_, ?_⟩
              · rw [ha]
                exact (hP.weaken (Nat.le_succ _)).keep (below_alloc (Below.refl _ _) _)
              · exact below_alloc (below_set4 HI.out.bel (Nat.le_of_succ_le (HI.out.fod.lt (g := gv) rfl).1) _ _ _ _ _ _ _ _) _
            · have hcm : cl ≤ 9223372036854775807 := by have := Hy.out.fe.strs.lecap; have := Hy.out.fe.strs.capmax; unfold maxLen at this; simp only at *; omega
              have Hy' : Hid (IsEl 9 w ⟨ca, cl, cc, cs, 2, bl, idt⟩) := ⟨⟨Hy.out.fe.strs, rfl, Hy.out.fe.wb, Hy.out.fe.wi⟩, Hy.out.own⟩
              have z1 : ((cl : Int) == 0) = false := by simp; omega
              have z2 : ¬ cl = 0 := by omega
              have Hnz := Lib.hid hcl0
              clear hcl0
              have hb2 : Below wr.heap.size wr (wr.alloc (.cells #[.slice ca cl cc, .int .i64 2, .int .i64 bl, .int .i64 idt] 39)) := below_alloc (Below.refl _ _) _
              have HF2 := Lib.hid (HI.out.fod.keep hb2)
              have Hy2 : Hid (IsEl 9 (wr.alloc (.cells #[.slice ca cl cc, .int .i64 2, .int .i64 bl, .int .i64 idt] 39)) ⟨ca, cl, cc, cs, 2, bl, idt⟩) := ((Hy'.out.keep HI.out.bel).keep hb2)
              have Hz2 : Hid (w.heap.size + 1 ≤ (wr.alloc (.cells #[.slice ca cl cc, .int .i64 2, .int .i64 bl, .int .i64 idt] 39)).heap.size) := by have := HI.out.box.lt; simp [Hid]; omega
              have Hl2 : Hid (la.length ≤ 4194304) := by have := Hn.out; simp only [Hid]; omega
              have Hb2 := Lib.hid hb2
              clear hb2
              go_wp2_with (at_builtin; refine wpList_append_fod rfl _ _ 22 rfl 9 39 (by decide) Tryf.underlying22 Hinfo.out (w.heap.size + 1) _ la ca cl cc cs 2 bl idt _ 1 rfl HF2.out rfl Hy2.out (news4 wr _ _ rfl _ _ _ _) Hl2.out Hz2.out ?_; intro v1 w1 hF1 hg1 hl1)
              go_ret
              have h3 := HI.out.step Hb2.out hg1 hF1
              have ha : app la (FEl.el ⟨ca, cl, cc, cs, 0, bl, idt⟩) = la ++ [⟨ca.isNone, cs, 2, bl, idt⟩] := by have hne : ¬ Mrgs la (FEl.el ⟨ca, cl, cc, cs, 0, bl, idt⟩) := (fun h => by have h3 := h.2.2; have h4 := Hy.out.fe.strs.len; have h5 := Hnz.out; simp only [FEl.el] at h3 h4; omega); rw [app_tail hne, Hcl.out]; rfl
              exact ⟨v1, rfl, by rw [ha]; exact h3.fod.weaken (by omega), h3.bel⟩
          · have e0 : (kd == 0) = false := by simpa using hk0
            have Hk0 := Lib.hid hk0
            clear hk0
            have hb2 : Below wr.heap.size wr (wr.alloc (.cells #[.slice ca cl cc, .int .i64 kd, .int .i64 bl, .int .i64 idt] 39)) := below_alloc (Below.refl _ _) _
            have HF2 := Lib.hid (HI.out.fod.keep hb2)
            have Hy2 : Hid (IsEl 9 (wr.alloc (.cells #[.slice ca cl cc, .int .i64 kd, .int .i64 bl, .int .i64 idt] 39)) ⟨ca, cl, cc, cs, kd, bl, idt⟩) := (Hy.out.keep HI.out.bel).keep hb2
            have Hz2 : Hid (w.heap.size + 1 ≤ (wr.alloc (.cells #[.slice ca cl cc, .int .i64 kd, .int .i64 bl, .int .i64 idt] 39)).heap.size) := by have := HI.out.box.lt; simp [Hid]; omega
            have Hl2 : Hid (la.length ≤ 4194304) := by have := Hn.out; simp only [Hid]; omega
            have Hb2 := Lib.hid hb2
            clear hb2
            go_wp2_with (at_builtin; refine wpList_append_fod rfl _ _ 22 rfl 9 39 (by decide) Tryf.underlying22 Hinfo.out (w.heap.size + 1) _ la ca cl cc cs kd bl idt _ 1 rfl HF2.out rfl Hy2.out (news4 wr _ _ rfl _ _ _ _) Hl2.out Hz2.out ?_; intro v1 w1 hF1 hg1 hl1)
            go_ret
            have h3 := HI.out.step Hb2.out hg1 hF1
            have ha : app la (FEl.el ⟨ca, cl, cc, cs, kd, bl, idt⟩) = la ++ [⟨ca.isNone, cs, kd, bl, idt⟩] := app_fits ⟨fun h => absurd h Hk0.out, fun _ => Hcl.out⟩
            exact ⟨v1, rfl, by rw [ha]; exact h3.fod.weaken (by omega), h3.bel⟩
end Go.Proofs.YtnagdbnfdedejaaFmt
