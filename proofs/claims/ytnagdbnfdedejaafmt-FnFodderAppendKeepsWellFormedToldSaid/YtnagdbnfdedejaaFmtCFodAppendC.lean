/- FodderAppend: a paragraph behind an open end. (Written by wip/genapp.py.) -/
import Derived.Test.YtnagdbnfdedejaaFmtCFodAppend
import Derived.Deep.DeepCutAuto
namespace Go.Proofs.YtnagdbnfdedejaaFmt
open Go.ChangeShapes Go.WideShapes Go.ChangeAt Go.RowKit
set_option linter.unusedVariables false

theorem leEl {S : TypeId} {w : World} {g : Nat} {idt : Int} (hwi : (Lit.int .i64 idt).wf = true) (hE : Blk w g S #[]) : IsEl S w ⟨some ⟨g, 0, none⟩, 0, 0, [], 0, 0, idt⟩ :=
  ⟨⟨⟨rfl, Nat.le_refl _, Nat.zero_le _, (fun k s hs => by simp at hs), (fun h => by cases h), fun hn => absurd hn (by simp)⟩, rfl, rfl, hwi⟩, fun a ha => by
    injection ha with ha
    subst ha
    exact ⟨_, hE⟩⟩
def CutRel (p i PT : Nat) (ps : Array Value) (v : Value) (base : Nat) (ls' : List El) (ca : Option Addr) (cl cc : Nat) (cs : List ByteArray) (bl idt : Int) (w wx : World) : Prop :=
  AppPost 9 36 p i PT ps v base ls' w (.returned (.tuple #[])) wx ∧ Blk wx w.heap.size 36 #[.slice ca cl cc, .int .i64 2, .int .i64 bl, .int .i64 idt] ∧ IsEl 9 wx ⟨ca, cl, cc, cs, 2, bl, idt⟩
set_option maxRecDepth 20000 in
set_option maxHeartbeats 1600000 in
theorem append_d (p i PT : Nat) (ps : Array Value) (v : Value) (ls : List El) (ca : Option Addr) (cl cc : Nat) (cs : List ByteArray) (bl idt : Int) (base : Nat) (w : World) (hp : Blk w p PT ps) (hpi : ps[i]? = some v) (hP1 : PT ≠ 36) (hP2 : PT ≠ 9)
    (hF : Fodd 9 36 base w v ls) (hy : IsEl 9 w ⟨ca, cl, cc, cs, 2, bl, idt⟩) (hl : ls.length ≤ 4194302) (hbase : base ≤ w.heap.size) (hc : closed ls = false) :
    Calls Tryf.prog 15 #[.pointer (some ⟨p, i, none⟩), .agg #[.slice ca cl cc, .int .i64 2, .int .i64 bl, .int .i64 idt]] w (AppPost 9 36 p i PT ps v base (app ls ⟨ca.isNone, cs, 2, bl, idt⟩) w) := by
  have cp : w.cell? ⟨p, i, none⟩ = some v := (hp.cell i).trans hpi
  obtain ⟨a, cap, fs, rfl, hI, hmap, _, _⟩ := hF.form
  have lp := hp.lt
  have lp1 : p < w.heap.size + 1 := by omega
  have np : ¬ p = w.heap.size := by omega
  have np' : ¬ w.heap.size = p := by omega
  have Hc := Lib.hid hc
  have Hmap := Lib.hid hmap
  have HB : ∀ o, Below w.heap.size w (w.alloc o) := fun o => below_alloc (Below.refl _ _) o
  have hI1 := hI.keep (HB (.cells #[.slice ca cl cc, .int .i64 2, .int .i64 bl, .int .i64 idt] 36))
  have Hpi := Lib.hid hpi
  have hinfo : (Tryf.prog.info? 36).map (fun i => (i.zero, i.size, i.bytes)) = some (some (.agg #[.slice none 0 0, .int .i64 0, .int .i64 0, .int .i64 0]), 4, 48) := by kernel_rfl
  have Hinfo := Lib.hid hinfo
  clear hinfo
  have hwi := Lib.hid hy.fe.wi
  have Hfit2 : Hid (fits (ls ++ [⟨false, [], 0, 0, idt⟩]) ⟨ca.isNone, cs, 2, bl, idt⟩) := ⟨(fun h => by cases h), fun _ => by rw [closed_snoc]; rfl⟩
  have Happ : Hid (app ls ⟨ca.isNone, cs, 2, bl, idt⟩ = (ls ++ [⟨false, [], 0, 0, idt⟩]) ++ [⟨ca.isNone, cs, 2, bl, idt⟩]) := by
    have hne : ¬ Mrgs ls ⟨ca.isNone, cs, 2, bl, idt⟩ := fun h => by have h3 := h.2.1; cases h3
    simp only [Hid]
    rw [app_tail hne, hc, List.append_assoc]
    rfl
  have HrowLt : Hid (∀ g, (Value.slice a ls.length cap).ownBlock = some g → g < w.heap.size) := fun g hg => (hF.lt hg).2
  clear hc hmap hpi
  go_enter Tryf.func15, Tryf.ntmps15
  go_wp2_with fail
  refine (clean_any _ _ _ fs _ hI1).mono ?_
  rintro e w' ⟨he, rfl⟩
  rw [Hmap.out, Hc.out] at he
  subst he
  go_wp2_with fail
  refine (clean_any _ _ _ fs _ hI1).mono ?_
  rintro e w' ⟨he, rfl⟩
  rw [Hmap.out, Hc.out] at he
  subst he
  go_wp2_with fail
  have HB1 : Below w.heap.size w (((w.alloc (.cells #[.slice ca cl cc, .int .i64 2, .int .i64 bl, .int .i64 idt] 36)).alloc (.cells #[] 9)).drew) := Below.drew (below_alloc (below_alloc (Below.refl _ _) _) _)
  have HBe : Blk (((w.alloc (.cells #[.slice ca cl cc, .int .i64 2, .int .i64 bl, .int .i64 idt] 36)).alloc (.cells #[] 9)).drew) (w.heap.size + 1) 9 #[] := (Blk.new1 w (.cells #[.slice ca cl cc, .int .i64 2, .int .i64 bl, .int .i64 idt] 36) 9 #[]).drew
  have HBx : Blk (((w.alloc (.cells #[.slice ca cl cc, .int .i64 2, .int .i64 bl, .int .i64 idt] 36)).alloc (.cells #[] 9)).drew) w.heap.size 36 #[.slice ca cl cc, .int .i64 2, .int .i64 bl, .int .i64 idt] := ((Blk.new w 36 #[.slice ca cl cc, .int .i64 2, .int .i64 bl, .int .i64 idt]).alloc _).drew
  have HFw := Lib.hid hF
  have Hpw := Lib.hid hp
  have Hyw := Lib.hid hy
  have Hb1 := Lib.hid HB1
  have Hbe := Lib.hid HBe
  have Hbx := Lib.hid HBx
  clear hF hI hI1 hy HB HB1 HBe HBx hp
  go_cut [65] (fun s65 wx => CutRel p i PT ps (Value.slice a ls.length cap) base (ls ++ [⟨false, [], 0, 0, idt⟩]) ca cl cc cs bl idt w wx)
  case first =>
    go_region_law (first | (go_simp; go_at_call 38; refine (mkLe_any idt _ _).mono ?_; rintro e w9 ⟨rfl, hb9⟩; have hz9 : w.heap.size + 1 < w9.heap.size := (by have := hb9.size; simp at this; omega); have hq9 : p < w9.heap.size := (by omega); have ho9 : ¬ p = w9.heap.size := (by omega); have ho9' : ¬ w9.heap.size = p := (by omega); have hp9 := (Hpw.out.below Hb1.out Hpw.out.lt).below hb9 (by simp; omega); have cp9 := (hp9.cell i).trans Hpi.out; obtain ⟨hc9, hf9⟩ := bcell hb9; have Hb9 := Lib.hid hb9; clear hb9 hp9) | (have HB8 := below_trans Hb1.out Hb9.out; have HB9 := below_alloc HB8 (.cells #[.slice (some ⟨w.heap.size + 1, 0, none⟩) 0 0, .int .i64 0, .int .i64 0, .int .i64 idt] 36); have HF9 := HFw.out.keep HB9; have HP9 := Hpw.out.below HB9 Hpw.out.lt; have HE9 : Blk (w9.alloc (.cells #[.slice (some ⟨w.heap.size + 1, 0, none⟩) 0 0, .int .i64 0, .int .i64 0, .int .i64 idt] 36)) (w.heap.size + 1) 9 #[] := (Hbe.out.below Hb9.out Hbe.out.lt).alloc _; have HX9 : Blk (w9.alloc (.cells #[.slice (some ⟨w.heap.size + 1, 0, none⟩) 0 0, .int .i64 0, .int .i64 0, .int .i64 idt] 36)) w.heap.size 36 #[.slice ca cl cc, .int .i64 2, .int .i64 bl, .int .i64 idt] := (Hbx.out.below Hb9.out Hbx.out.lt).alloc _; refine step_append_fod (by rfl) _ _ 28 (by rfl) 9 36 (by decide) Tryf.underlying28 Hinfo.out base _ ls (some ⟨w.heap.size + 1, 0, none⟩) 0 0 [] 0 0 idt ⟨w9.heap.size, 0, none⟩ 1 (by rfl) HF9 (by rfl) (leEl hwi.out HE9) (news4 w9 _ _ rfl _ _ _ _) (by omega) (Nat.le_trans hbase HB9.size) ?_; intro v1 w1 hF1 hg1 hl1; obtain ⟨a1, n1, c1, rfl⟩ := hF1.slice; have hp1 := HP9.grownF hg1 (fun e => by obtain ⟨cs', hb'⟩ := HF9.blk e.symm; exact HP9.ne_ hb' hP1 rfl); have cp1 := (hp1.cell i).trans Hpi.out; have fp1 := hp1.frozen i; have HB7 := Lib.hid HB9; have HP8 := Lib.hid HP9; have HF1 := Lib.hid hF1; have Hg1 := Lib.hid hg1; have Hl1 := Lib.hid hl1; have HX8 := Lib.hid HX9; have Hp1 := Lib.hid hp1; clear hF1 hg1 hl1 hp1 HB9 HF9 HP9 HE9 HX9 HB8))
    all_goals
      go_wp2_with fail
      go_meet
      have hA1 : AppPost 9 36 p i PT ps (Value.slice a ls.length cap) base (ls ++ [⟨false, [], 0, 0, idt⟩]) w (.returned (.tuple #[])) (w1.setCell ⟨p, i, none⟩ (Value.slice a1 n1 c1)) := AppPost.done HFw.out HB7.out HP8.out Hg1.out HF1.out Hl1.out hP1 hP2
      have hrow : some w.heap.size ≠ (Value.slice a ls.length cap).ownBlock := fun e => Nat.lt_irrefl _ (HrowLt.out _ e.symm)
      have hx1 := HX8.out.grownF Hg1.out hrow
      have hy1 := (Hyw.out.keep HB7.out).grown Hg1.out (fun g hg => by obtain ⟨cs', hb'⟩ := HFw.out.blk hg; exact ⟨cs', _, hb'.below HB7.out hb'.lt, by decide⟩)
      exact ⟨hA1, hx1.far (p := ⟨p, i, none⟩) (fun e => np (by rw [e])) _, hy1.far Hp1.out hP2 _⟩
  case rest =>
    obtain ⟨⟨-, v1, hp3, hF3, hFr3, hloc3⟩, hx3, hy3⟩ := hcut
    obtain ⟨a1, n1, c1, rfl⟩ := hF3.slice
    obtain ⟨W3, hW3⟩ : ∃ W3, W3 = wc := ⟨_, rfl⟩
    subst hW3
    have hin : i < ps.size := (Array.getElem?_eq_some_iff.1 Hpi.out).1
    have hpi3 : (ps.setIfInBounds i (Value.slice a1 n1 c1))[i]? = some (Value.slice a1 n1 c1) := by simp [hin]
    have c0 : W3.cell? ⟨w.heap.size, 0, none⟩ = some (.slice ca cl cc) := hx3.cell 0
    have c1' : W3.cell? ⟨w.heap.size, 1, none⟩ = some (.int .i64 2) := hx3.cell 1
    have c2' : W3.cell? ⟨w.heap.size, 2, none⟩ = some (.int .i64 bl) := hx3.cell 2
    have c3' : W3.cell? ⟨w.heap.size, 3, none⟩ = some (.int .i64 idt) := hx3.cell 3
    have cp3 : W3.cell? ⟨p, i, none⟩ = some (Value.slice a1 n1 c1) := (hp3.cell i).trans hpi3
    have hb3 : Below W3.heap.size W3 ((W3.alloc (.cells #[.slice ca cl cc, .int .i64 2, .int .i64 bl, .int .i64 idt] 36)).drew) := Below.drew (below_alloc (Below.refl _ _) _)
    have HF2 := Lib.hid (hF3.keep hb3)
    have Hy2 := Lib.hid (hy3.keep hb3)
    have Hp2 := Lib.hid (hp3.below hb3 hp3.lt)
    have Hn2 : Hid (∀ j u, ([.slice ca cl cc, .int .i64 2, .int .i64 bl, .int .i64 idt] : List Value)[j]? = some u → ((W3.alloc (.cells #[.slice ca cl cc, .int .i64 2, .int .i64 bl, .int .i64 idt] 36)).drew).cell? (Addr.add ⟨W3.heap.size, 0, none⟩ j) = some u) := news4 W3 _ _ rfl _ _ _ _
    have Hz2 : Hid (base ≤ ((W3.alloc (.cells #[.slice ca cl cc, .int .i64 2, .int .i64 bl, .int .i64 idt] 36)).drew).heap.size) := by have := hFr3.size; simp [Hid]; omega
    have Hl2 : Hid ((ls ++ [(⟨false, [], 0, 0, idt⟩ : El)]).length ≤ 4194304) := by simp [Hid]; omega
    have HF3 := Lib.hid hF3
    have Hp3 := Lib.hid hp3
    have Hb3 := Lib.hid hb3
    have HFr3 := Lib.hid hFr3
    have Hloc3 := Lib.hid hloc3
    have lp3 : p < W3.heap.size := hp3.lt
    have lx3 : w.heap.size < W3.heap.size := hx3.lt
    have Hpi3 := Lib.hid hpi3
    clear hF3 hy3 hp3 hb3 hFr3 hloc3 hx3 hpi3
    go_wp2_with fail
    go_region_law ((refine step_append_fod (by rfl) _ _ 28 (by rfl) 9 36 (by decide) Tryf.underlying28 Hinfo.out base _ (ls ++ [⟨false, [], 0, 0, idt⟩]) ca cl cc cs 2 bl idt ⟨W3.heap.size, 0, none⟩ 1 (by rfl) HF2.out (by rfl) Hy2.out Hn2.out Hl2.out Hz2.out ?_; intro v1 w1 hF1 hg1 hl1; obtain ⟨a4, n4, c4, rfl⟩ := hF1.slice; have hp1 := Hp2.out.grownF hg1 (fun e => by obtain ⟨cs', hb'⟩ := HF2.out.blk e.symm; exact Hp2.out.ne_ hb' hP1 rfl); have cp1 := (hp1.cell i).trans Hpi3.out; have fp1 := hp1.frozen i; have HF1 := Lib.hid hF1; have Hg1 := Lib.hid hg1; have Hl1 := Lib.hid hl1; clear hF1 hg1 hl1 hp1))
    all_goals
      go_wp2_with fail
      go_end0
      rw [Happ.out]
      exact AppPost.trans HFr3.out Hloc3.out (AppPost.done HF3.out Hb3.out Hp2.out Hg1.out HF1.out Hl1.out hP1 hP2)
end Go.Proofs.YtnagdbnfdedejaaFmt
