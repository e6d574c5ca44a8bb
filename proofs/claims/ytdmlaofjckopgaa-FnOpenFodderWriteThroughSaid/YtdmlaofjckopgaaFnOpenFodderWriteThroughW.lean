/- The walk of FnOpenFodderWriteThrough. -/
import Derived.Test.YtdmlaofjckopgaaFnOpenFodderWriteThroughB
import Derived.Test.YtdmlaofjckopgaaC25Fod
import Derived.Test.YtdmlaofjckopgaaC25Match
import Derived.Test.YtdmlaofjckopgaaCMkloc25
import Derived.Test.YtdmlaofjckopgaaCNewNode
import Derived.Test.YtdmlaofjckopgaaCNodeFod
import Derived.Deep.RegionHeld3
import Derived.Deep.DeepCutAuto
namespace Go.Proofs.Ytdmlaofjckopgaa.fnOpenFodderWriteThrough
open Go.ChangeShapes Go.WideShapes Go.ChangeAt Go.RowKit
set_option linter.unusedVariables false

theorem matches_fod {base : Nat} {w : World} {a a' : Option Addr} {m n c c' : Nat} {fs : List FEl} (h : Fodd 9 67 base w (.slice a m c) (fs.map FEl.el)) (h' : IsFEs w a' n c' fs) (hz : a.isNone = a'.isNone) :
    Calls Try.prog 18 #[.slice a m c, .slice a' n c'] w (YesB25 w) := by
  obtain ⟨a4, c4, f4, hv, hI, hm, _, _⟩ := h.form
  injection hv with h1 h2 h3
  have hn : m = n := by rw [h2, List.length_map, h'.len]
  subst h1 h3 hn
  rw [← h2] at hI
  exact fodMatches_yes _ _ _ _ _ f4 fs w hI h' hm hz

/-- What the statement 'n := NewNodeBaseLoc(loc, toFodder(fod))' leaves, whatever order it went in. -/
def CutR (gl : Nat) (a0 : ByteArray) (a1 a2 a3 a4 : Int) (a5 : Option Addr) (s5 : List FEl) (w : World) (s : Value) (wx : World) : Prop :=
  ∃ (g : Nat) (fa : Option Addr) (fm fc : Nat) (xf : Addr), s = .pointer (some ⟨g, 0, none⟩) ∧ Below w.heap.size w wx ∧ Blk wx g 35 #[.slice fa fm fc, .pointer none, .slice (some xf) 0 0, .pointer none, .string a0, .int .i64 a1, .int .i64 a2, .int .i64 a3, .int .i64 a4] ∧ w.heap.size ≤ g ∧ gl < g ∧ Blk wx gl 33 #[.pointer none, .string a0, .int .i64 a1, .int .i64 a2, .int .i64 a3, .int .i64 a4] ∧ Fodd 9 67 w.heap.size wx (.slice fa fm fc) (s5.map FEl.el) ∧ fa.isNone = a5.isNone
abbrev set9 (w : World) (g : Nat) (v0 v1 v2 v3 v4 v5 v6 v7 v8 : Value) : World := ((((((((w.setCell ⟨g, 0, none⟩ v0).setCell ⟨g, 1, none⟩ v1).setCell ⟨g, 2, none⟩ v2).setCell ⟨g, 3, none⟩ v3).setCell ⟨g, 4, none⟩ v4).setCell ⟨g, 5, none⟩ v5).setCell ⟨g, 6, none⟩ v6).setCell ⟨g, 7, none⟩ v7).setCell ⟨g, 8, none⟩ v8
theorem set9_blk {w : World} {g t : Nat} {c0 c1 c2 c3 c4 c5 c6 c7 c8 : Value} (h : Blk w g t #[c0, c1, c2, c3, c4, c5, c6, c7, c8]) (v0 v1 v2 v3 v4 v5 v6 v7 v8 : Value) : Blk (set9 w g v0 v1 v2 v3 v4 v5 v6 v7 v8) g t #[v0, v1, v2, v3, v4, v5, v6, v7, v8] := by
  have h1 := ((((((((h.set_ 0 v0).set_ 1 v1).set_ 2 v2).set_ 3 v3).set_ 4 v4).set_ 5 v5).set_ 6 v6).set_ 7 v7).set_ 8 v8
  simpa [set9] using h1
theorem set9_wrote (w : World) (g : Nat) (v0 v1 v2 v3 v4 v5 v6 v7 v8 : Value) : Wrote g w (set9 w g v0 v1 v2 v3 v4 v5 v6 v7 v8) :=
  ((((((((Wrote.set g 0 w v0).trans (Wrote.set g 1 _ v1)).trans (Wrote.set g 2 _ v2)).trans (Wrote.set g 3 _ v3)).trans (Wrote.set g 4 _ v4)).trans (Wrote.set g 5 _ v5)).trans (Wrote.set g 6 _ v6)).trans (Wrote.set g 7 _ v7)).trans (Wrote.set g 8 _ v8)
theorem keep9 {w : World} {g gl : Nat} {v0 v1 v2 v3 v4 v5 v6 v7 v8 c0 c1 c2 c3 c4 c5 : Value} (hne : gl ≠ g) (h : Blk w gl 33 #[c0, c1, c2, c3, c4, c5]) : (set9 w g v0 v1 v2 v3 v4 v5 v6 v7 v8).cell? ⟨gl, 0, none⟩ = some c0 ∧ (set9 w g v0 v1 v2 v3 v4 v5 v6 v7 v8).cell? ⟨gl, 1, none⟩ = some c1 ∧ (set9 w g v0 v1 v2 v3 v4 v5 v6 v7 v8).cell? ⟨gl, 2, none⟩ = some c2 ∧ (set9 w g v0 v1 v2 v3 v4 v5 v6 v7 v8).cell? ⟨gl, 3, none⟩ = some c3 ∧ (set9 w g v0 v1 v2 v3 v4 v5 v6 v7 v8).cell? ⟨gl, 4, none⟩ = some c4 ∧ (set9 w g v0 v1 v2 v3 v4 v5 v6 v7 v8).cell? ⟨gl, 5, none⟩ = some c5 := by
  have h1 := h.wrote (set9_wrote w g v0 v1 v2 v3 v4 v5 v6 v7 v8) hne
  exact ⟨h1.cell 0, h1.cell 1, h1.cell 2, h1.cell 3, h1.cell 4, h1.cell 5⟩
theorem cells6 {w : World} {gl : Nat} {c0 c1 c2 c3 c4 c5 : Value} (h1 : Blk w gl 33 #[c0, c1, c2, c3, c4, c5]) : w.cell? ⟨gl, 0, none⟩ = some c0 ∧ w.cell? ⟨gl, 1, none⟩ = some c1 ∧ w.cell? ⟨gl, 2, none⟩ = some c2 ∧ w.cell? ⟨gl, 3, none⟩ = some c3 ∧ w.cell? ⟨gl, 4, none⟩ = some c4 ∧ w.cell? ⟨gl, 5, none⟩ = some c5 :=
  ⟨h1.cell 0, h1.cell 1, h1.cell 2, h1.cell 3, h1.cell 4, h1.cell 5⟩
theorem CutR.mk1 {gl : Nat} {a0 : ByteArray} {a1 a2 a3 a4 : Int} {a5 fa : Option Addr} {fm fc : Nat} {xf : Addr} {s5 : List FEl} {w W4 : World} (hB : Below w.heap.size w W4) (hl : Blk W4 gl 33 #[.pointer none, .string a0, .int .i64 a1, .int .i64 a2, .int .i64 a3, .int .i64 a4]) (hF : Fodd 9 67 w.heap.size W4 (.slice fa fm fc) (s5.map FEl.el)) (hz : fa.isNone = a5.isNone) :
    CutR gl a0 a1 a2 a3 a4 a5 s5 w (.pointer (some ⟨W4.heap.size, 0, none⟩)) (W4.alloc (.cells #[.slice fa fm fc, .pointer none, .slice (some xf) 0 0, .pointer none, .string a0, .int .i64 a1, .int .i64 a2, .int .i64 a3, .int .i64 a4] 35)) :=
  ⟨_, fa, fm, fc, xf, rfl, below_alloc hB _, Blk.new _ _ _, hB.size, hl.lt, hl.alloc _, hF.keep (below_alloc (Below.refl _ _) _), hz⟩
theorem CutR.mk9 {gl g : Nat} {a0 : ByteArray} {a1 a2 a3 a4 : Int} {a5 fa : Option Addr} {fm fc : Nat} {xf : Addr} {s5 : List FEl} {w W4 : World} {c0 c1 c2 c3 c4 c5 c6 c7 c8 : Value} (hw : w.heap.size ≤ g) (hg : gl < g) (hB : Below w.heap.size w W4) (hN : Blk W4 g 35 #[c0, c1, c2, c3, c4, c5, c6, c7, c8]) (hl : Blk W4 gl 33 #[.pointer none, .string a0, .int .i64 a1, .int .i64 a2, .int .i64 a3, .int .i64 a4]) (hF : Fodd 9 67 w.heap.size W4 (.slice fa fm fc) (s5.map FEl.el)) (hz : fa.isNone = a5.isNone) :
    CutR gl a0 a1 a2 a3 a4 a5 s5 w (.pointer (some ⟨g, 0, none⟩)) (set9 W4 g (.slice fa fm fc) (.pointer none) (.slice (some xf) 0 0) (.pointer none) (.string a0) (.int .i64 a1) (.int .i64 a2) (.int .i64 a3) (.int .i64 a4)) := by
  have hw9 := set9_wrote W4 g (.slice fa fm fc) (.pointer none) (.slice (some xf) 0 0) (.pointer none) (.string a0) (.int .i64 a1) (.int .i64 a2) (.int .i64 a3) (.int .i64 a4)
  refine ⟨g, fa, fm, fc, xf, rfl, below_wrote hB hw9 hw, set9_blk hN _ _ _ _ _ _ _ _ _, hw, hg, hl.wrote hw9 (by omega), ?_, hz⟩
  exact hF.moved (by rw [hw9.size]; exact Nat.le_refl _) (fun k cs hk => hk.wrote hw9 (hk.ne_ hN (by decide))) (fun k cs _ hk => hk.wrote hw9 (hk.ne_ hN (by decide)))

set_option maxRecDepth 20000 in
set_option maxHeartbeats 1600000 in
theorem walk (a0 : ByteArray) (a1 : Int) (a2 : Int) (a3 : Int) (a4 : Int) (a5 : Option Addr) (len5 cap5 : Nat) (s5 : List FEl) (a6 : Option Addr) (len6 cap6 : Nat) (s6 : List FEl) (w : World) (w0 : a0.size ≤ maxLen) (w1 : (Lit.int .i64 a1).wf = true) (w2 : (Lit.int .i64 a2).wf = true) (w3 : (Lit.int .i64 a3).wf = true) (w4 : (Lit.int .i64 a4).wf = true) (w5 : IsFEs w a5 len5 cap5 s5) (w6 : IsFEs w a6 len6 cap6 s6) :
    Calls Try.prog 4 #[.string a0, .int .i64 a1, .int .i64 a2, .int .i64 a3, .int .i64 a4, .slice a5 len5 cap5, .slice a6 len6 cap6] w fun e w' => e = .returned (.bool true) ∧ Below w.heap.size w w' := by
  clear w1 w2 w3 w4
  have hpn := fun W => equalIn_ptr_nil (P := Try.prog) W 9998 Try.underlying29
  have hnq := fun W (x : Addr) => Lib.run_eql_slice_nil (P := Try.prog) W 28 59 (some x) 0 0 0 0 Try.underlying28
  go_enter Try.func4, Try.ntmps4
  go_wp2_with fail
  refine (bytes_any _ _ _ _ _ _ _ _ _ _ _ _ _ _ w0 w5 w6).mono ?_
  rintro e w' ⟨r, rfl, hr, rfl⟩
  cases r
  · go_wp2_with fail
    go_ret
    exact ⟨rfl, Below.refl _ _⟩
  obtain ⟨hl0, hl5, hup5, hl6, hup6⟩ := hr rfl
  have Hup5 := Lib.hid hup5
  have Hup6 := Lib.hid hup6
  clear hr hup5 hup6
  go_wp2_with fail
  refine (fodBytes_any _ _ _ s5 _ w5).mono ?_
  rintro e w' ⟨m, rfl, hm1, hm2, rfl⟩
  go_wp2_with fail
  refine (fodBytes_any _ _ _ s6 _ w6).mono ?_
  rintro e w' ⟨m', rfl, hm3, hm4, rfl⟩
  go_wp2_with fail
  all_goals try (go_ret; exact ⟨rfl, Below.refl _ _⟩)
  clear hm1 hm2 hm3 hm4
  refine (mkLoc_any _ _ _ _ _ _).mono ?_
  rintro e W1 ⟨rfl, hB⟩
  obtain ⟨gl, hgl⟩ : ∃ gl, gl = W1.heap.size := ⟨_, rfl⟩
  have hlr : Blk (W1.alloc (.cells #[.pointer none, .string a0, .int .i64 a1, .int .i64 a2, .int .i64 a3, .int .i64 a4] 33)) gl 33 #[.pointer none, .string a0, .int .i64 a1, .int .i64 a2, .int .i64 a3, .int .i64 a4] := by rw [hgl]; exact Blk.new _ _ _
  have hba : Below W1.heap.size W1 (W1.alloc (.cells #[.pointer none, .string a0, .int .i64 a1, .int .i64 a2, .int .i64 a3, .int .i64 a4] 33)) := below_alloc (Below.refl _ _) _
  replace hB := below_trans hB hba
  have HB := Lib.hid hB
  have Hlr := Lib.hid hlr
  clear hba hB hlr
  go_wp2_with fail
  rw [← hgl]
  generalize (W1.alloc (.cells #[.pointer none, .string a0, .int .i64 a1, .int .i64 a2, .int .i64 a3, .int .i64 a4] 33)) = W2 at HB Hlr ⊢
  clear hgl
  have l0 : W2.cell? ⟨gl, 0, none⟩ = some (.pointer none) := Hlr.out.cell 0
  have l1 : W2.cell? ⟨gl, 1, none⟩ = some (.string a0) := Hlr.out.cell 1
  have l2 : W2.cell? ⟨gl, 2, none⟩ = some (.int .i64 a1) := Hlr.out.cell 2
  have l3 : W2.cell? ⟨gl, 3, none⟩ = some (.int .i64 a2) := Hlr.out.cell 3
  have l4 : W2.cell? ⟨gl, 4, none⟩ = some (.int .i64 a3) := Hlr.out.cell 4
  have l5 : W2.cell? ⟨gl, 5, none⟩ = some (.int .i64 a4) := Hlr.out.cell 5
  have hf5 := w5.keep HB.out
  go_cut [16] (fun s16 wx => CutR gl a0 a1 a2 a3 a4 a5 s5 w s16 wx)
  case first =>
    go_region_held3 (fun w' => w'.cell? ⟨gl, 0, none⟩ = some (.pointer none) ∧ w'.cell? ⟨gl, 1, none⟩ = some (.string a0) ∧ w'.cell? ⟨gl, 2, none⟩ = some (.int .i64 a1) ∧ w'.cell? ⟨gl, 3, none⟩ = some (.int .i64 a2) ∧ w'.cell? ⟨gl, 4, none⟩ = some (.int .i64 a3) ∧ w'.cell? ⟨gl, 5, none⟩ = some (.int .i64 a4)) (first | (with_reducible exact cells6 (Blk.drew Hlr.out)) | (with_reducible exact cells6 Hlr4.out) | (with_reducible exact cells6 Hlr3.out) | (with_reducible exact cells6 (Hlr4.out.alloc _)) | (with_reducible exact cells6 (Hlr3.out.alloc _)) | (with_reducible exact cells6 (Hlr.out.alloc _).drew) | (with_reducible exact keep9 (by have := Hgn.out; omega) Hlr4.out) | go_keep) (first
      | (go_at_call 16; refine (toFodder_any _ _ _ s5 _ (by first | exact hf5.keep (Below.drew (Below.refl _ _)) | exact hf5.keep (Below.drew (below_alloc (Below.refl _ _) _))) hl5 Hup5.out).mono ?_; rintro e W3 ⟨fa, fm, fc, rfl, hfn, hf, hb3⟩; have HB3 : Hid (Below W2.heap.size W2 W3) := (by first | exact below_trans (Below.drew (Below.refl _ _)) hb3 | exact below_trans (Below.drew (below_alloc (Below.refl _ _) _)) hb3); have HF3 : Hid (Fodd 9 67 W2.heap.size W3 (.slice fa fm fc) (s5.map FEl.el)) := (by first | exact hf | exact hf.weaken (by simp)); have Hfn := Lib.hid hfn; have Hlr3 := Lib.hid (Hlr.out.below HB3.out Hlr.out.lt); (first | (have HN3 : Hid (Blk W3 W2.heap.size 35 #[.slice none 0 0, .pointer none, .slice none 0 0, .pointer none, .string ⟨#[]⟩, .int .i64 0, .int .i64 0, .int .i64 0, .int .i64 0]) := (Blk.new W2 35 #[.slice none 0 0, .pointer none, .slice none 0 0, .pointer none, .string ⟨#[]⟩, .int .i64 0, .int .i64 0, .int .i64 0, .int .i64 0]).drew.below hb3 (by simp)) | skip); clear hf hfn)
      | (go_at_call 9; refine (newNodeLoc_any _ _ _ _ _ _ _ _ _ _).mono ?_; rintro e W4 ⟨xf, rfl, hb4⟩; have HB4 : Hid (Below W3.heap.size W3 W4) := (by first | exact hb4 | exact below_trans (below_alloc (Below.refl _ _) _) hb4); have Hlr4 := Lib.hid (Hlr3.out.below HB4.out Hlr3.out.lt); have HF4 := Lib.hid (HF3.out.keep HB4.out); (first | (have HN4 : Hid (Blk W4 W2.heap.size 35 #[.slice none 0 0, .pointer none, .slice none 0 0, .pointer none, .string ⟨#[]⟩, .int .i64 0, .int .i64 0, .int .i64 0, .int .i64 0]) := HN3.out.below HB4.out HN3.out.lt; have Hgn : Hid (gl < W2.heap.size) := Hlr.out.lt; have Hwn : Hid (w.heap.size ≤ W2.heap.size) := HB.out.size) | (have HN4 : Hid (Blk W4 W3.heap.size 35 #[.slice none 0 0, .pointer none, .slice none 0 0, .pointer none, .string ⟨#[]⟩, .int .i64 0, .int .i64 0, .int .i64 0, .int .i64 0]) := (Blk.new W3 35 #[.slice none 0 0, .pointer none, .slice none 0 0, .pointer none, .string ⟨#[]⟩, .int .i64 0, .int .i64 0, .int .i64 0, .int .i64 0]).below hb4 (by simp); have Hgn : Hid (gl < W3.heap.size) := Hlr3.out.lt; have Hwn : Hid (w.heap.size ≤ W3.heap.size) := (below_trans HB.out HB3.out).size) | skip); (first | (have z0 : W4.cell? ⟨_, 0, none⟩ = some (.slice none 0 0) := HN4.out.cell 0; have z1 : W4.cell? ⟨_, 1, none⟩ = some (.pointer none) := HN4.out.cell 1; have z2 : W4.cell? ⟨_, 2, none⟩ = some (.slice none 0 0) := HN4.out.cell 2; have z3 : W4.cell? ⟨_, 3, none⟩ = some (.pointer none) := HN4.out.cell 3; have z4 : W4.cell? ⟨_, 4, none⟩ = some (.string ⟨#[]⟩) := HN4.out.cell 4; have z5 : W4.cell? ⟨_, 5, none⟩ = some (.int .i64 0) := HN4.out.cell 5; have z6 : W4.cell? ⟨_, 6, none⟩ = some (.int .i64 0) := HN4.out.cell 6; have z7 : W4.cell? ⟨_, 7, none⟩ = some (.int .i64 0) := HN4.out.cell 7; have z8 : W4.cell? ⟨_, 8, none⟩ = some (.int .i64 0) := HN4.out.cell 8; have y0 := HN4.out.frozen 0; have y1 := HN4.out.frozen 1; have y2 := HN4.out.frozen 2; have y3 := HN4.out.frozen 3; have y4 := HN4.out.frozen 4; have y5 := HN4.out.frozen 5; have y6 := HN4.out.frozen 6; have y7 := HN4.out.frozen 7; have y8 := HN4.out.frozen 8) | skip)))
    all_goals
      go_wp2_with fail
      go_meet
      have hB4 : Below w.heap.size w W4 := below_trans (below_trans HB.out HB3.out) HB4.out
      have hF4 := HF4.out.weaken (base' := w.heap.size) HB.out.size
      first
        | (with_reducible exact CutR.mk1 hB4 Hlr4.out hF4 Hfn.out)
        | (with_reducible exact CutR.mk9 Hwn.out Hgn.out hB4 HN4.out Hlr4.out hF4 Hfn.out)
  case rest =>
  clear HB Hlr l0 l1 l2 l3 l4 l5 hf5
  obtain ⟨g, fa, fm, fc, xf, rfl, hB5, hp5, hge, hglg, hlr5, hf5, hfn5⟩ := hcut
  obtain ⟨W5, hW5⟩ : ∃ z, z = wc := ⟨_, rfl⟩
  subst hW5
  have HB5 := Lib.hid hB5
  have Hp5 := Lib.hid hp5
  have Hge := Lib.hid hge
  have Hglg := Lib.hid hglg
  have Hlr5 := Lib.hid hlr5
  have Hf5 := Lib.hid hf5
  have Hfn := Lib.hid hfn5
  clear hB5 hp5 hge hglg hlr5 hf5 hfn5
  have k0 : W5.cell? ⟨g, 0, none⟩ = some (.slice fa fm fc) := Hp5.out.cell 0
  have k1 : W5.cell? ⟨g, 1, none⟩ = some (.pointer none) := Hp5.out.cell 1
  have k2 : W5.cell? ⟨g, 2, none⟩ = some (.slice (some xf) 0 0) := Hp5.out.cell 2
  have k3 : W5.cell? ⟨g, 3, none⟩ = some (.pointer none) := Hp5.out.cell 3
  have k4 : W5.cell? ⟨g, 4, none⟩ = some (.string a0) := Hp5.out.cell 4
  have k5 : W5.cell? ⟨g, 5, none⟩ = some (.int .i64 a1) := Hp5.out.cell 5
  have k6 : W5.cell? ⟨g, 6, none⟩ = some (.int .i64 a2) := Hp5.out.cell 6
  have k7 : W5.cell? ⟨g, 7, none⟩ = some (.int .i64 a3) := Hp5.out.cell 7
  have k8 : W5.cell? ⟨g, 8, none⟩ = some (.int .i64 a4) := Hp5.out.cell 8
  go_wp2_with (go_at_call 17; refine (fod_any _ _).mono ?_; rintro e w' ⟨rfl, rfl⟩)
  refine (matches_fod Hf5.out (w5.keep HB5.out) Hfn.out).mono ?_
  rintro e W6 ⟨rfl, hb⟩
  have HB6 := Lib.hid (below_trans HB5.out hb)
  have Hp6 := Lib.hid (Hp5.out.below hb Hp5.out.lt)
  have Hlr6 := Lib.hid (Hlr5.out.below hb Hlr5.out.lt)
  clear HB5 Hp5 Hlr5 Hf5 hb k0 k1 k2 k3 k4 k5 k6 k7 k8 w5
  go_wp2_with (go_at_call 17; refine (fod_any _ _).mono ?_; rintro e w' ⟨rfl, rfl⟩)
  refine (toFodder_any _ _ _ s6 _ (w6.keep HB6.out) hl6 Hup6.out).mono ?_
  rintro e W7 ⟨fb, fm', fc', rfl, hfn', hf', hb⟩
  have Hfn' := Lib.hid hfn'
  have HB7 := Lib.hid (below_trans HB6.out hb)
  have Hp7 := Lib.hid (Hp6.out.below hb Hp6.out.lt)
  have Hlr7 := Lib.hid (Hlr6.out.below hb Hlr6.out.lt)
  have Hf7 := Lib.hid (hf'.weaken (base' := w.heap.size) HB6.out.size)
  clear HB6 Hp6 Hlr6 hb hf' hfn'
  have k0 : W7.cell? ⟨g, 0, none⟩ = some (.slice fa fm fc) := Hp7.out.cell 0
  have f0 := Hp7.out.frozen 0
  have HB8 : Hid (Below w.heap.size w (W7.setCell ⟨g, 0, none⟩ (.slice fb fm' fc'))) := below_set HB7.out Hge.out _
  have Hp8 : Hid (Blk (W7.setCell ⟨g, 0, none⟩ (.slice fb fm' fc')) g 35 #[.slice fb fm' fc', .pointer none, .slice (some xf) 0 0, .pointer none, .string a0, .int .i64 a1, .int .i64 a2, .int .i64 a3, .int .i64 a4]) := by have := Hp7.out.set_ 0 (.slice fb fm' fc'); simpa [Hid] using this
  have Hlr8 : Hid (Blk (W7.setCell ⟨g, 0, none⟩ (.slice fb fm' fc')) gl 33 #[.pointer none, .string a0, .int .i64 a1, .int .i64 a2, .int .i64 a3, .int .i64 a4]) := Hlr7.out.far (p := ⟨g, 0, none⟩) (fun e => by have := Hglg.out; simp only at e; omega) _
  have Hf8 : Hid (Fodd 9 67 w.heap.size (W7.setCell ⟨g, 0, none⟩ (.slice fb fm' fc')) (.slice fb fm' fc') (s6.map FEl.el)) := Hf7.out.far Hp7.out (by decide) (by decide) _
  clear HB7 Hp7 Hlr7 Hf7
  generalize hW8 : W7.setCell ⟨g, 0, none⟩ (.slice fb fm' fc') = W8 at HB8 Hp8 Hlr8 Hf8
  have m0 : W8.cell? ⟨g, 0, none⟩ = some (.slice fb fm' fc') := Hp8.out.cell 0
  have m1 : W8.cell? ⟨g, 1, none⟩ = some (.pointer none) := Hp8.out.cell 1
  have k2 : W8.cell? ⟨g, 2, none⟩ = some (.slice (some xf) 0 0) := Hp8.out.cell 2
  have k3 : W8.cell? ⟨g, 3, none⟩ = some (.pointer none) := Hp8.out.cell 3
  have k4 : W8.cell? ⟨g, 4, none⟩ = some (.string a0) := Hp8.out.cell 4
  have k5 : W8.cell? ⟨g, 5, none⟩ = some (.int .i64 a1) := Hp8.out.cell 5
  have k6 : W8.cell? ⟨g, 6, none⟩ = some (.int .i64 a2) := Hp8.out.cell 6
  have k7 : W8.cell? ⟨g, 7, none⟩ = some (.int .i64 a3) := Hp8.out.cell 7
  have k8 : W8.cell? ⟨g, 8, none⟩ = some (.int .i64 a4) := Hp8.out.cell 8
  go_wp2_with fail
  clear hW8 k0 f0
  refine (matches_fod Hf8.out (w6.keep HB8.out) Hfn'.out).mono ?_
  rintro e W9 ⟨rfl, hb⟩
  have HB9 := Lib.hid (below_trans HB8.out hb)
  have Hp9 := Lib.hid (Hp8.out.below hb Hp8.out.lt)
  have Hlr9 := Lib.hid (Hlr8.out.below hb Hlr8.out.lt)
  have Hf9 := Lib.hid (Hf8.out.keep hb)
  clear HB8 Hp8 Hlr8 Hf8 hb m0 m1 k2 k3 k4 k5 k6 k7 k8
  have k0 : W9.cell? ⟨g, 0, none⟩ = some (.slice fb fm' fc') := Hp9.out.cell 0
  have k1 : W9.cell? ⟨g, 1, none⟩ = some (.pointer none) := Hp9.out.cell 1
  have k2 : W9.cell? ⟨g, 2, none⟩ = some (.slice (some xf) 0 0) := Hp9.out.cell 2
  have k3 : W9.cell? ⟨g, 3, none⟩ = some (.pointer none) := Hp9.out.cell 3
  have k4 : W9.cell? ⟨g, 4, none⟩ = some (.string a0) := Hp9.out.cell 4
  have k5 : W9.cell? ⟨g, 5, none⟩ = some (.int .i64 a1) := Hp9.out.cell 5
  have k6 : W9.cell? ⟨g, 6, none⟩ = some (.int .i64 a2) := Hp9.out.cell 6
  have k7 : W9.cell? ⟨g, 7, none⟩ = some (.int .i64 a3) := Hp9.out.cell 7
  have k8 : W9.cell? ⟨g, 8, none⟩ = some (.int .i64 a4) := Hp9.out.cell 8
  go_wp2_with (go_at_call 17; refine (fod_any _ _).mono ?_; rintro e w' ⟨rfl, rfl⟩)
  refine (matches_fod Hf9.out (w6.keep HB9.out) Hfn'.out).mono ?_
  rintro e W10 ⟨rfl, hb⟩
  have HB10 := Lib.hid (below_trans HB9.out hb)
  have Hp10 := Lib.hid (Hp9.out.below hb Hp9.out.lt)
  have Hlr10 := Lib.hid (Hlr9.out.below hb Hlr9.out.lt)
  clear HB9 Hp9 Hlr9 Hf9 hb k0 k1 k2 k3 k4 k5 k6 k7 k8
  have k0 : W10.cell? ⟨g, 0, none⟩ = some (.slice fb fm' fc') := Hp10.out.cell 0
  have k1 : W10.cell? ⟨g, 1, none⟩ = some (.pointer none) := Hp10.out.cell 1
  have k2 : W10.cell? ⟨g, 2, none⟩ = some (.slice (some xf) 0 0) := Hp10.out.cell 2
  have k3 : W10.cell? ⟨g, 3, none⟩ = some (.pointer none) := Hp10.out.cell 3
  have k4 : W10.cell? ⟨g, 4, none⟩ = some (.string a0) := Hp10.out.cell 4
  have k5 : W10.cell? ⟨g, 5, none⟩ = some (.int .i64 a1) := Hp10.out.cell 5
  have k6 : W10.cell? ⟨g, 6, none⟩ = some (.int .i64 a2) := Hp10.out.cell 6
  have k7 : W10.cell? ⟨g, 7, none⟩ = some (.int .i64 a3) := Hp10.out.cell 7
  have k8 : W10.cell? ⟨g, 8, none⟩ = some (.int .i64 a4) := Hp10.out.cell 8
  have l0 : W10.cell? ⟨gl, 0, none⟩ = some (.pointer none) := Hlr10.out.cell 0
  have l1 : W10.cell? ⟨gl, 1, none⟩ = some (.string a0) := Hlr10.out.cell 1
  have l2 : W10.cell? ⟨gl, 2, none⟩ = some (.int .i64 a1) := Hlr10.out.cell 2
  have l3 : W10.cell? ⟨gl, 3, none⟩ = some (.int .i64 a2) := Hlr10.out.cell 3
  have l4 : W10.cell? ⟨gl, 4, none⟩ = some (.int .i64 a3) := Hlr10.out.cell 4
  have l5 : W10.cell? ⟨gl, 5, none⟩ = some (.int .i64 a4) := Hlr10.out.cell 5
  go_wp2_with (go_at_call 17; refine (fod_any _ _).mono ?_; rintro e w' ⟨rfl, rfl⟩)
  go_ret
  exact ⟨rfl, HB10.out⟩
end Go.Proofs.Ytdmlaofjckopgaa.fnOpenFodderWriteThrough
