/- The walk of FnOpenFodderEnsureCleanNewline. (Written by wip/gen25w.py.) -/
import Derived.Test.YtdmlaofjckopgaaFmtFnOpenFodderEnsureCleanNewlineB
import Derived.Test.YtdmlaofjckopgaaFmtC25Fod
import Derived.Test.YtdmlaofjckopgaaFmtC25Match
import Derived.Test.YtdmlaofjckopgaaFmtCFodEnsure
import Derived.Test.YtdmlaofjckopgaaFmtCNewNode
import Derived.Test.YtdmlaofjckopgaaFmtCNodeFod
import Derived.Deep.RegionHeld3
namespace Go.Proofs.YtdmlaofjckopgaaFmt.fnOpenFodderEnsureCleanNewline
open Go.ChangeShapes Go.WideShapes Go.ChangeAt Go.RowKit
set_option linter.unusedVariables false

set_option maxRecDepth 20000 in
set_option maxHeartbeats 1000000 in
theorem walk (a0 : Option Addr) (len0 cap0 : Nat) (s0 : List FEl) (w : World) (w0 : IsFEs w a0 len0 cap0 s0) :
    Calls Tryf.prog 3 #[.slice a0 len0 cap0] w fun e w' => e = .returned (.bool true) ∧ Below w.heap.size w w' := by
  have hpn := fun W => equalIn_ptr_nil (P := Tryf.prog) W 9998 Tryf.underlying32
  have hps := fun (W : World) (a : Addr) => neq_ptr_same (P := Tryf.prog) W a Tryf.underlying40 (n := 1) (by kernel_rfl)
  go_enter Tryf.func3, Tryf.ntmps3
  go_wp2_with fail
  refine (bytes_any _ _ _ _ _ w0).mono ?_
  rintro e w' ⟨r, rfl, hr, rfl⟩
  cases r
  · go_wp2_with fail
    go_ret
    exact ⟨rfl, Below.refl _ _⟩
  obtain ⟨hl0, hup0⟩ := hr rfl
  clear hr
  go_wp2_with fail
  refine (fodBytes_any _ _ _ s0 _ w0).mono ?_
  rintro e w' ⟨m, rfl, hm1, hm2, rfl⟩
  go_wp2_with fail
  all_goals try (go_ret; exact ⟨rfl, Below.refl _ _⟩)
  clear hm1 hm2
  refine (toFodder_any _ _ _ s0 _ w0 hl0 hup0).mono ?_
  rintro e W1 ⟨fa, fm, fc, rfl, hfn, hf, hB⟩
  have Hfn := Lib.hid hfn
  clear hfn hup0
  go_wp2_with fail
  refine (newNodeLoc_any _ _ _ _ _ _ _ _ _ _).mono ?_
  rintro e W2 ⟨xf, rfl, hb⟩
  replace hf := hf.keep hb
  replace hB := below_trans hB hb
  clear hb
  obtain ⟨g, hg⟩ : ∃ g, g = W2.heap.size := ⟨_, rfl⟩
  have hp : Blk (W2.alloc (.cells #[.slice fa fm fc, .pointer none, .slice (some xf) 0 0, .pointer none, .string ⟨#[]⟩, .int .i64 0, .int .i64 0, .int .i64 0, .int .i64 0] 38)) g 38 #[.slice fa fm fc, .pointer none, .slice (some xf) 0 0, .pointer none, .string ⟨#[]⟩, .int .i64 0, .int .i64 0, .int .i64 0, .int .i64 0] := by rw [hg]; exact Blk.new _ _ _
  have Hge : Hid (w.heap.size ≤ g) := by rw [hg]; exact hB.size
  have hba : Below W2.heap.size W2 (W2.alloc (.cells #[.slice fa fm fc, .pointer none, .slice (some xf) 0 0, .pointer none, .string ⟨#[]⟩, .int .i64 0, .int .i64 0, .int .i64 0, .int .i64 0] 38)) := below_alloc (Below.refl _ _) _
  replace hf := hf.keep hba
  replace hB := below_trans hB hba
  have Hf := Lib.hid hf
  have HB := Lib.hid hB
  have Hp := Lib.hid hp
  clear hba hf hB hp
  go_wp2_with (go_at_call 8; refine (fod_any _ _).mono ?_; rintro e w' ⟨rfl, rfl⟩)
  rw [← hg]
  generalize (W2.alloc (.cells #[.slice fa fm fc, .pointer none, .slice (some xf) 0 0, .pointer none, .string ⟨#[]⟩, .int .i64 0, .int .i64 0, .int .i64 0, .int .i64 0] 38)) = W3 at Hf HB Hp ⊢
  clear hg
  refine (ensure_any g 0 38 #[.slice fa fm fc, .pointer none, .slice (some xf) 0 0, .pointer none, .string ⟨#[]⟩, .int .i64 0, .int .i64 0, .int .i64 0, .int .i64 0] _ (s0.map FEl.el) w.heap.size _ Hp.out rfl (by decide) (by decide) Hf.out (by rw [List.length_map, w0.len]; omega) HB.out.size).mono ?_
  rintro e W4 ⟨he, v4, q4, h4, hFr, -⟩
  subst he
  have hB4 := below_fr HB.out hFr HB.out.size (fun k hk => by injection hk with hk; rw [← hk]; exact Hge.out) (fun k hk => (Hf.out.lt hk).1)
  obtain ⟨a4, c4, f4, rfl, hI, hm4, hform4, -⟩ := h4.form
  obtain ⟨n4, hn4⟩ : ∃ n, n = (ens (s0.map FEl.el)).length := ⟨_, rfl⟩
  rw [← hn4] at hI q4
  replace q4 : Blk W4 g 38 #[.slice a4 n4 c4, .pointer none, .slice (some xf) 0 0, .pointer none, .string ⟨#[]⟩, .int .i64 0, .int .i64 0, .int .i64 0, .int .i64 0] := by simpa using q4
  have HBl := Lib.hid hB4
  have Hm4 := Lib.hid hm4
  have Hn4 := Lib.hid hn4
  have w4 := w0.keep hB4
  have Hlen : Hid (s0.length = len0) := w0.len
  have Hf4 := Lib.hid hform4
  clear hFr h4 Hf HB Hp hm4 hform4 hB4 w0 hn4
  have k0 : W4.cell? ⟨g, 0, none⟩ = some (.slice a4 n4 c4) := q4.cell 0
  have k2 : W4.cell? ⟨g, 2, none⟩ = some (.slice (some xf) 0 0) := q4.cell 2
  have k3 : W4.cell? ⟨g, 3, none⟩ = some (.pointer none) := q4.cell 3
  have k4 : W4.cell? ⟨g, 4, none⟩ = some (.string ⟨#[]⟩) := q4.cell 4
  have k5 : W4.cell? ⟨g, 5, none⟩ = some (.int .i64 0) := q4.cell 5
  have k6 : W4.cell? ⟨g, 6, none⟩ = some (.int .i64 0) := q4.cell 6
  have k7 : W4.cell? ⟨g, 7, none⟩ = some (.int .i64 0) := q4.cell 7
  have k8 : W4.cell? ⟨g, 8, none⟩ = some (.int .i64 0) := q4.cell 8
  cases hc : closed (s0.map FEl.el) with
  | true =>
    have Hens : Hid (ens (s0.map FEl.el) = s0.map FEl.el) := by simp only [Hid]; rw [ens, if_pos hc]
    have Hnn : Hid (n4 = len0) := by simp only [Hid]; rw [Hn4.out, Hens.out, List.length_map]; exact Hlen.out
    obtain rfl := Hnn.out
    clear Hnn
    have hpos : 0 < n4 := by
      rcases Nat.eq_zero_or_pos n4 with h | h
      · exfalso
        have : s0 = [] := List.eq_nil_of_length_eq_zero (by have := Hlen.out; omega)
        rw [this] at hc
        cases hc
      · exact h
    obtain ⟨n, rfl⟩ : ∃ n, n4 = n + 1 := ⟨n4 - 1, by omega⟩
    obtain ⟨b, off, x, rfl, hblt, hx, hfe, c0, c1, c2, c3⟩ := w4.at_ (show n < n + 1 by omega)
    have hk1 : x.kind ≠ 1 := fun h => by
      rw [closed_at (by have := Hlen.out; omega) hx, h] at hc
      cases hc
    have e1 : (x.kind != 1) = true := by simpa using hk1
    have i0 : (0 : Int) < (n : Int) + 1 := by omega
    have Hz : Hid (a4.isNone = (some (⟨b, off, none⟩ : Addr)).isNone) := by
      rcases Hf4.out with h | ⟨k, h⟩
      · subst h; have := hI.nil rfl; omega
      · rw [h]; rfl
    have Hmm : Hid (f4.map FEl.el = s0.map FEl.el) := by simp only [Hid]; rw [Hm4.out, Hens.out]
    clear hc hx hfe c0 c2 c3 hk1 hpos
    go_wp2_with (go_at_call 8; refine (fod_any _ _).mono ?_; rintro e w' ⟨rfl, rfl⟩)
    refine (fodMatches_yes _ _ _ _ _ f4 s0 _ hI w4 Hmm.out Hz.out).mono ?_
    rintro e W5 ⟨rfl, hb⟩
    replace hI := hI.keep hb
    replace w4 := w4.keep hb
    replace q4 := q4.below hb q4.lt
    have HBl' := Lib.hid (below_trans HBl.out hb)
    clear HBl hb k0 k2 k3 k4 k5 k6 k7 k8 c1
    have k0 : W5.cell? ⟨g, 0, none⟩ = some (.slice a4 (n + 1) c4) := q4.cell 0
    have k2 : W5.cell? ⟨g, 2, none⟩ = some (.slice (some xf) 0 0) := q4.cell 2
    have k3 : W5.cell? ⟨g, 3, none⟩ = some (.pointer none) := q4.cell 3
    have k4 : W5.cell? ⟨g, 4, none⟩ = some (.string ⟨#[]⟩) := q4.cell 4
    have k5 : W5.cell? ⟨g, 5, none⟩ = some (.int .i64 0) := q4.cell 5
    have k6 : W5.cell? ⟨g, 6, none⟩ = some (.int .i64 0) := q4.cell 6
    have k7 : W5.cell? ⟨g, 7, none⟩ = some (.int .i64 0) := q4.cell 7
    have k8 : W5.cell? ⟨g, 8, none⟩ = some (.int .i64 0) := q4.cell 8
    go_wp2_with (go_at_call 8; refine (fod_any _ _).mono ?_; rintro e w' ⟨rfl, rfl⟩)
    refine (fodMatches_yes _ _ _ _ _ f4 s0 _ hI w4 Hmm.out Hz.out).mono ?_
    rintro e W6 ⟨rfl, hb⟩
    replace hI := hI.keep hb
    replace q4 := q4.below hb q4.lt
    have HBl := Lib.hid (below_trans HBl'.out hb)
    clear HBl' hb k0 k2 k3 k4 k5 k6 k7 k8
    have k0 : W6.cell? ⟨g, 0, none⟩ = some (.slice a4 (n + 1) c4) := q4.cell 0
    have k2 : W6.cell? ⟨g, 2, none⟩ = some (.slice (some xf) 0 0) := q4.cell 2
    have k3 : W6.cell? ⟨g, 3, none⟩ = some (.pointer none) := q4.cell 3
    have k4 : W6.cell? ⟨g, 4, none⟩ = some (.string ⟨#[]⟩) := q4.cell 4
    have k5 : W6.cell? ⟨g, 5, none⟩ = some (.int .i64 0) := q4.cell 5
    have k6 : W6.cell? ⟨g, 6, none⟩ = some (.int .i64 0) := q4.cell 6
    have k7 : W6.cell? ⟨g, 7, none⟩ = some (.int .i64 0) := q4.cell 7
    have k8 : W6.cell? ⟨g, 8, none⟩ = some (.int .i64 0) := q4.cell 8
    go_wp2_with (go_at_call 8; refine (fod_any _ _).mono ?_; rintro e w' ⟨rfl, rfl⟩)
    refine (clean_any _ _ _ f4 _ hI).mono ?_
    rintro e w' ⟨he, rfl⟩
    rw [Hm4.out, closed_ens] at he
    subst he
    go_wp2_with (go_at_call 8; refine (fod_any _ _).mono ?_; rintro e w' ⟨rfl, rfl⟩)
    go_ret
    exact ⟨rfl, HBl.out⟩
  | false =>
    have Hens : Hid (ens (s0.map FEl.el) = s0.map FEl.el ++ [le0]) := by simp only [Hid]; rw [ens, if_neg (by simp [hc])]
    have Hnn : Hid (n4 = len0 + 1) := by simp only [Hid]; rw [Hn4.out, Hens.out, List.length_append, List.length_map, Hlen.out]; rfl
    obtain rfl := Hnn.out
    clear Hnn
    have j0 : (0 : Int) ≤ (len0 : Int) := by omega
    have hmain : ∀ (b1 : Bool), True := fun _ => trivial
    clear hmain
    obtain ⟨b4, o4, z, rfl, hb4, hz, hfz, zc0, zc1, zc2, zc3⟩ := hI.at_ (show len0 < len0 + 1 by omega)
    have hzl : z.el = le0 := by
      have h1 : (f4.map FEl.el)[len0]? = some z.el := by rw [List.getElem?_map, hz]; rfl
      rw [Hm4.out, Hens.out, List.getElem?_append_right (by rw [List.length_map, Hlen.out]; exact Nat.le_refl _), List.length_map, Hlen.out, Nat.sub_self] at h1
      exact (Option.some.inj h1).symm
    have hzc : z.clen = 0 ∧ z.kind = 0 ∧ z.blanks = 0 ∧ z.indent = 0 := by
      have h1 := hfz.strs.len
      unfold FEl.el le0 at hzl
      injection hzl with q1 q2 q3 q4 q5
      rw [q2] at h1
      exact ⟨h1.symm, q3, q4, q5⟩
    obtain ⟨za, zl, zc, zs, zk, zb, zi⟩ := z
    obtain ⟨rfl, rfl, rfl, rfl⟩ := hzc
    dsimp only at zc0 zc1 zc2 zc3
    clear hz hfz hzl
    have Zc0 := Lib.hid zc0
    have Zc1 := Lib.hid zc1
    have Zc2 := Lib.hid zc2
    have Zc3 := Lib.hid zc3
    clear zc0 zc1 zc2 zc3
    obtain ⟨n, hnl⟩ : ∃ n, n = len0 := ⟨_, rfl⟩
    have hcases : (len0 = 0 ∧ 0 = len0) ∨ (∃ m, len0 = m + 1) := by
      rcases Nat.eq_zero_or_pos len0 with h | h
      · exact Or.inl ⟨h, h.symm⟩
      · exact Or.inr ⟨len0 - 1, by omega⟩
    rcases hcases with ⟨h0, -⟩ | ⟨m, h0⟩
    · have e5 : decide ((0 : Int) < (len0 : Int)) = false := by simp; omega
      have e6 : decide (0 < len0) = false := by simp; omega
      have e7 : ¬ 0 < len0 := by omega
      clear hnl hc h0
      have Hq4 := Lib.hid q4
      have HIg := Lib.hid hI
      have Hw4 := Lib.hid w4
      go_wp2_with (go_at_call 8; refine (fod_any _ _).mono ?_; rintro e w' ⟨rfl, rfl⟩)
      go_loopw [8] (fun i wr => ∃ k : Nat, k ≤ len0 ∧ i = .int .i64 k ∧ Hid (Below W4.heap.size W4 wr)) (fun i _ => len0 - (intOf i).toNat)
      case atStart => exact ⟨0, Nat.zero_le _, rfl, Below.refl _ _⟩
      case round =>
        clear k0 k2 k3 k4 k5 k6 k7 k8 hI w4 q4
        obtain ⟨k, hk, rfl, hW⟩ := hrel
        by_cases hlt : k < len0
        · obtain ⟨b, off, x, hbx, hblt, hx, hfx, x0, x1, x2, x3⟩ := (HIg.out.keep hW.out).at_ (show k < len0 + 1 by omega)
          injection hbx with hbx
          injection hbx with hbx1 hbx2
          subst hbx1 hbx2
          obtain ⟨b', off', y, rfl, hblt', hy, hfy, y0, y1, y2, y3⟩ := (Hw4.out.keep hW.out).at_ hlt
          have Hxy : Hid (x.el = y.el) := by
            have h1 : (f4.map FEl.el)[k]? = some x.el := by rw [List.getElem?_map, hx]; rfl
            have h2 : (s0.map FEl.el)[k]? = some y.el := by rw [List.getElem?_map, hy]; rfl
            rw [Hm4.out, Hens.out, List.getElem?_append_left (by rw [List.length_map, Hlen.out]; exact hlt), h2] at h1
            exact (Option.some.inj h1).symm
          clear hx hy
          have i0 : (0 : Int) ≤ (k : Int) := by omega
          have i1 : (k : Int) < (len0 : Int) := by omega
          have i2 : (k : Int) < (len0 : Int) + 1 := by omega
          go_wp2_with fail
          go_region_held3 (fun w' => w'.cell? ⟨b4, o4 + k * 4, none⟩ = some (.slice x.ca x.clen x.ccap) ∧ w'.cell? ⟨b4, o4 + k * 4 + 1, none⟩ = some (.int .i64 x.kind) ∧ w'.cell? ⟨b4, o4 + k * 4 + 2, none⟩ = some (.int .i64 x.blanks) ∧ w'.cell? ⟨b4, o4 + k * 4 + 3, none⟩ = some (.int .i64 x.indent) ∧ w'.cell? ⟨b', off' + k * 4, none⟩ = some (.slice y.ca y.clen y.ccap) ∧ w'.cell? ⟨b', off' + k * 4 + 1, none⟩ = some (.int .i64 y.kind) ∧ w'.cell? ⟨b', off' + k * 4 + 2, none⟩ = some (.int .i64 y.blanks) ∧ w'.cell? ⟨b', off' + k * 4 + 3, none⟩ = some (.int .i64 y.indent)) (first | exact ⟨x0, x1, x2, x3, y0, y1, y2, y3⟩ | (go_split_ands; exact ⟨cell_later hb2 (by assumption), cell_later hb2 (by assumption), cell_later hb2 (by assumption), cell_later hb2 (by assumption), cell_later hb2 (by assumption), cell_later hb2 (by assumption), cell_later hb2 (by assumption), cell_later hb2 (by assumption)⟩) | assumption) (first | (go_at_call 11; refine (sameElem_yes x y _ (hfx.keep (Below.drew (Below.refl _ _))) (hfy.keep (Below.drew (Below.refl _ _))) Hxy.out).mono ?_; rintro e w2 ⟨rfl, hb2⟩))
          rename_i hheld
          clear hheld
          have HW2 : Hid (Below W4.heap.size W4 w2) := below_trans (Below.drew hW.out) hb2
          clear hfx hfy x0 x1 x2 x3 y0 y1 y2 y3 hW hb2
          go_wp2_with fail
          exact ⟨⟨k + 1, by omega, by go_num, HW2⟩, by simp [intOf]; omega⟩
        · have hI := HIg.out.keep hW.out
          have q4 := Hq4.out.below hW.out Hq4.out.lt
          have HBl' := Lib.hid (below_trans HBl.out hW.out)
          have z0 : wr.cell? ⟨b4, o4 + len0 * 4, none⟩ = some (.slice za 0 zc) := (hW.out.cell (p := ⟨b4, o4 + len0 * 4, none⟩) hb4).trans Zc0.out
          have z1 : wr.cell? ⟨b4, o4 + len0 * 4 + 1, none⟩ = some (.int .i64 0) := (hW.out.cell (p := ⟨b4, o4 + len0 * 4 + 1, none⟩) hb4).trans Zc1.out
          have z2 : wr.cell? ⟨b4, o4 + len0 * 4 + 2, none⟩ = some (.int .i64 0) := (hW.out.cell (p := ⟨b4, o4 + len0 * 4 + 2, none⟩) hb4).trans Zc2.out
          have z3 : wr.cell? ⟨b4, o4 + len0 * 4 + 3, none⟩ = some (.int .i64 0) := (hW.out.cell (p := ⟨b4, o4 + len0 * 4 + 3, none⟩) hb4).trans Zc3.out
          have j1 : (len0 : Int) < (len0 : Int) + 1 := by omega
          have k0 : wr.cell? ⟨g, 0, none⟩ = some (.slice (some ⟨b4, o4, none⟩) (len0 + 1) c4) := q4.cell 0
          have k2 : wr.cell? ⟨g, 2, none⟩ = some (.slice (some xf) 0 0) := q4.cell 2
          have k3 : wr.cell? ⟨g, 3, none⟩ = some (.pointer none) := q4.cell 3
          have k4 : wr.cell? ⟨g, 4, none⟩ = some (.string ⟨#[]⟩) := q4.cell 4
          have k5 : wr.cell? ⟨g, 5, none⟩ = some (.int .i64 0) := q4.cell 5
          have k6 : wr.cell? ⟨g, 6, none⟩ = some (.int .i64 0) := q4.cell 6
          have k7 : wr.cell? ⟨g, 7, none⟩ = some (.int .i64 0) := q4.cell 7
          have k8 : wr.cell? ⟨g, 8, none⟩ = some (.int .i64 0) := q4.cell 8
          have lq : g < wr.heap.size := q4.lt
          have hba : Below wr.heap.size wr (wr.alloc (.cells #[.slice za 0 zc, .int .i64 0, .int .i64 0, .int .i64 0] 50)) := below_alloc (Below.refl _ _) _
          have hI' := hI.keep hba
          have HBl := Lib.hid (below_trans HBl'.out hba)
          clear hW HBl' hba hI q4
          go_wp2_with (go_at_call 8; refine (fod_any _ _).mono ?_; rintro e w' ⟨rfl, rfl⟩)
          refine (clean_any _ _ _ f4 _ hI').mono ?_
          rintro e w' ⟨he, rfl⟩
          rw [Hm4.out, closed_ens] at he
          subst he
          go_wp2_with (go_at_call 8; refine (fod_any _ _).mono ?_; rintro e w' ⟨rfl, rfl⟩)
          go_ret
          exact ⟨rfl, HBl.out⟩
    · subst h0
      obtain ⟨b5, o5, x5, hb5, hblt5, hx5, hfe5, y50, y51, y52, y53⟩ := w4.at_ (show m < m + 1 by omega)
      have hk1 : x5.kind = 1 := by
        have h1 := closed_at (n := m) (by have := Hlen.out; omega) hx5
        rw [hc] at h1
        have h2 : (x5.kind == 1) = true := by simpa using h1.symm
        simpa using h2
      rw [hk1] at y51
      subst hb5
      have i5 : (0 : Int) < (m : Int) + 1 := by omega
      clear hnl hc hx5 hfe5 y50 y52 y53 hk1
      have Hq4 := Lib.hid q4
      have HIg := Lib.hid hI
      have Hw4 := Lib.hid w4
      go_wp2_with (go_at_call 8; refine (fod_any _ _).mono ?_; rintro e w' ⟨rfl, rfl⟩)
      go_loopw [8] (fun i wr => ∃ k : Nat, k ≤ (m + 1) ∧ i = .int .i64 k ∧ Hid (Below W4.heap.size W4 wr)) (fun i _ => (m + 1) - (intOf i).toNat)
      case atStart => exact ⟨0, Nat.zero_le _, rfl, Below.refl _ _⟩
      case round =>
        clear k0 k2 k3 k4 k5 k6 k7 k8 hI w4 q4
        obtain ⟨k, hk, rfl, hW⟩ := hrel
        by_cases hlt : k < (m + 1)
        · obtain ⟨b, off, x, hbx, hblt, hx, hfx, x0, x1, x2, x3⟩ := (HIg.out.keep hW.out).at_ (show k < (m + 1) + 1 by omega)
          injection hbx with hbx
          injection hbx with hbx1 hbx2
          subst hbx1 hbx2
          obtain ⟨b', off', y, hby9, hblt', hy, hfy, y0, y1, y2, y3⟩ := (Hw4.out.keep hW.out).at_ hlt
          injection hby9 with hby9
          injection hby9 with hby1 hby2
          subst hby1 hby2
          have Hxy : Hid (x.el = y.el) := by
            have h1 : (f4.map FEl.el)[k]? = some x.el := by rw [List.getElem?_map, hx]; rfl
            have h2 : (s0.map FEl.el)[k]? = some y.el := by rw [List.getElem?_map, hy]; rfl
            rw [Hm4.out, Hens.out, List.getElem?_append_left (by rw [List.length_map, Hlen.out]; exact hlt), h2] at h1
            exact (Option.some.inj h1).symm
          clear hx hy
          have i0 : (0 : Int) ≤ (k : Int) := by omega
          have i1 : (k : Int) < ((m : Int) + 1) := by omega
          have i2 : (k : Int) < ((m : Int) + 1) + 1 := by omega
          go_wp2_with fail
          go_region_held3 (fun w' => w'.cell? ⟨b4, o4 + k * 4, none⟩ = some (.slice x.ca x.clen x.ccap) ∧ w'.cell? ⟨b4, o4 + k * 4 + 1, none⟩ = some (.int .i64 x.kind) ∧ w'.cell? ⟨b4, o4 + k * 4 + 2, none⟩ = some (.int .i64 x.blanks) ∧ w'.cell? ⟨b4, o4 + k * 4 + 3, none⟩ = some (.int .i64 x.indent) ∧ w'.cell? ⟨b5, o5 + k * 4, none⟩ = some (.slice y.ca y.clen y.ccap) ∧ w'.cell? ⟨b5, o5 + k * 4 + 1, none⟩ = some (.int .i64 y.kind) ∧ w'.cell? ⟨b5, o5 + k * 4 + 2, none⟩ = some (.int .i64 y.blanks) ∧ w'.cell? ⟨b5, o5 + k * 4 + 3, none⟩ = some (.int .i64 y.indent)) (first | exact ⟨x0, x1, x2, x3, y0, y1, y2, y3⟩ | (go_split_ands; exact ⟨cell_later hb2 (by assumption), cell_later hb2 (by assumption), cell_later hb2 (by assumption), cell_later hb2 (by assumption), cell_later hb2 (by assumption), cell_later hb2 (by assumption), cell_later hb2 (by assumption), cell_later hb2 (by assumption)⟩) | assumption) (first | (go_at_call 11; refine (sameElem_yes x y _ (hfx.keep (Below.drew (Below.refl _ _))) (hfy.keep (Below.drew (Below.refl _ _))) Hxy.out).mono ?_; rintro e w2 ⟨rfl, hb2⟩))
          rename_i hheld
          clear hheld
          have HW2 : Hid (Below W4.heap.size W4 w2) := below_trans (Below.drew hW.out) hb2
          clear hfx hfy x0 x1 x2 x3 y0 y1 y2 y3 hW hb2
          go_wp2_with fail
          exact ⟨⟨k + 1, by omega, by go_num, HW2⟩, by simp [intOf]; omega⟩
        · have hI := HIg.out.keep hW.out
          have q4 := Hq4.out.below hW.out Hq4.out.lt
          have HBl' := Lib.hid (below_trans HBl.out hW.out)
          have z0 : wr.cell? ⟨b4, o4 + (m + 1) * 4, none⟩ = some (.slice za 0 zc) := (hW.out.cell (p := ⟨b4, o4 + (m + 1) * 4, none⟩) hb4).trans Zc0.out
          have z1 : wr.cell? ⟨b4, o4 + (m + 1) * 4 + 1, none⟩ = some (.int .i64 0) := (hW.out.cell (p := ⟨b4, o4 + (m + 1) * 4 + 1, none⟩) hb4).trans Zc1.out
          have z2 : wr.cell? ⟨b4, o4 + (m + 1) * 4 + 2, none⟩ = some (.int .i64 0) := (hW.out.cell (p := ⟨b4, o4 + (m + 1) * 4 + 2, none⟩) hb4).trans Zc2.out
          have z3 : wr.cell? ⟨b4, o4 + (m + 1) * 4 + 3, none⟩ = some (.int .i64 0) := (hW.out.cell (p := ⟨b4, o4 + (m + 1) * 4 + 3, none⟩) hb4).trans Zc3.out
          have j1 : ((m : Int) + 1) < ((m : Int) + 1) + 1 := by omega
          have k0 : wr.cell? ⟨g, 0, none⟩ = some (.slice (some ⟨b4, o4, none⟩) ((m + 1) + 1) c4) := q4.cell 0
          have k2 : wr.cell? ⟨g, 2, none⟩ = some (.slice (some xf) 0 0) := q4.cell 2
          have k3 : wr.cell? ⟨g, 3, none⟩ = some (.pointer none) := q4.cell 3
          have k4 : wr.cell? ⟨g, 4, none⟩ = some (.string ⟨#[]⟩) := q4.cell 4
          have k5 : wr.cell? ⟨g, 5, none⟩ = some (.int .i64 0) := q4.cell 5
          have k6 : wr.cell? ⟨g, 6, none⟩ = some (.int .i64 0) := q4.cell 6
          have k7 : wr.cell? ⟨g, 7, none⟩ = some (.int .i64 0) := q4.cell 7
          have k8 : wr.cell? ⟨g, 8, none⟩ = some (.int .i64 0) := q4.cell 8
          have lq : g < wr.heap.size := q4.lt
          have hba : Below wr.heap.size wr (wr.alloc (.cells #[.slice za 0 zc, .int .i64 0, .int .i64 0, .int .i64 0] 50)) := below_alloc (Below.refl _ _) _
          have hI' := hI.keep hba
          have HBl := Lib.hid (below_trans HBl'.out hba)
          clear hW HBl' hba hI q4
          go_wp2_with (go_at_call 8; refine (fod_any _ _).mono ?_; rintro e w' ⟨rfl, rfl⟩)
          refine (clean_any _ _ _ f4 _ hI').mono ?_
          rintro e w' ⟨he, rfl⟩
          rw [Hm4.out, closed_ens] at he
          subst he
          go_wp2_with (go_at_call 8; refine (fod_any _ _).mono ?_; rintro e w' ⟨rfl, rfl⟩)
          go_ret
          exact ⟨rfl, HBl.out⟩
end Go.Proofs.YtdmlaofjckopgaaFmt.fnOpenFodderEnsureCleanNewline
