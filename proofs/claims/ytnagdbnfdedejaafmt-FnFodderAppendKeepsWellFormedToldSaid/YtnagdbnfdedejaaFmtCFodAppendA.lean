/- FodderAppend: a line end with a comment behind a clean end. (Written by wip/genapp.py.) -/
import Derived.Test.YtnagdbnfdedejaaFmtCFodAppend
namespace Go.Proofs.YtnagdbnfdedejaaFmt
open Go.ChangeShapes Go.WideShapes Go.ChangeAt Go.RowKit
set_option linter.unusedVariables false

set_option maxRecDepth 20000 in
set_option maxHeartbeats 1600000 in
theorem append_a (p i PT : Nat) (ps : Array Value) (v : Value) (ls : List El) (ca : Option Addr) (cl cc : Nat) (cs : List ByteArray) (bl idt : Int) (base : Nat) (w : World) (hp : Blk w p PT ps) (hpi : ps[i]? = some v) (hP1 : PT ≠ 36) (hP2 : PT ≠ 9)
    (hF : Fodd 9 36 base w v ls) (hy : IsEl 9 w ⟨ca, cl, cc, cs, 0, bl, idt⟩) (hl : ls.length ≤ 4194302) (hbase : base ≤ w.heap.size) (hc : closed ls = true) (hcl : 0 < cl) :
    Calls Tryf.prog 15 #[.pointer (some ⟨p, i, none⟩), .agg #[.slice ca cl cc, .int .i64 0, .int .i64 bl, .int .i64 idt]] w (AppPost 9 36 p i PT ps v base (app ls ⟨ca.isNone, cs, 0, bl, idt⟩) w) := by
  have cp : w.cell? ⟨p, i, none⟩ = some v := (hp.cell i).trans hpi
  obtain ⟨a, cap, fs, rfl, hI, hmap, _, _⟩ := hF.form
  have lp := hp.lt
  have lp1 : p < w.heap.size + 1 := by omega
  have np : ¬ p = w.heap.size := by omega
  have np' : ¬ w.heap.size = p := by omega
  have Hc := Lib.hid hc
  have Hmap := Lib.hid hmap
  have HB : ∀ o, Below w.heap.size w (w.alloc o) := fun o => below_alloc (Below.refl _ _) o
  have hI1 := hI.keep (HB (.cells #[.slice ca cl cc, .int .i64 0, .int .i64 bl, .int .i64 idt] 36))
  have Hpi := Lib.hid hpi
  have hinfo : (Tryf.prog.info? 36).map (fun i => (i.zero, i.size, i.bytes)) = some (some (.agg #[.slice none 0 0, .int .i64 0, .int .i64 0, .int .i64 0]), 4, 48) := by kernel_rfl
  have Hinfo := Lib.hid hinfo
  clear hinfo
  have hclm : cl ≤ maxLen := Nat.le_trans hy.fe.strs.lecap hy.fe.strs.capmax
  have hcl' := hclm
  unfold maxLen at hcl'
  have z0 : (0 : Int) < (cl : Int) := by omega
  have Happ : Hid (app ls ⟨ca.isNone, cs, 0, bl, idt⟩ = ls ++ [⟨ca.isNone, cs, 2, bl, idt⟩]) := by
    have hne : ¬ Mrgs ls ⟨ca.isNone, cs, 0, bl, idt⟩ := fun h => by have h3 := h.2.2; have h4 := hy.fe.strs.len; simp only at h3 h4; omega
    simp only [Hid]
    rw [app_tail hne, hc]
    rfl
  have Hy' : Hid (IsEl 9 w ⟨ca, cl, cc, cs, 2, bl, idt⟩) := ⟨⟨hy.fe.strs, rfl, hy.fe.wb, hy.fe.wi⟩, hy.own⟩
  clear hc hmap hpi
  go_enter Tryf.func15, Tryf.ntmps15
  go_wp2_with fail
  refine (clean_any _ _ _ fs _ hI1).mono ?_
  rintro e w' ⟨he, rfl⟩
  rw [Hmap.out, Hc.out] at he
  subst he
  go_wp2_with fail
  have HB1 : Below w.heap.size w (w.alloc (.cells #[.slice ca cl cc, .int .i64 0, .int .i64 bl, .int .i64 idt] 36)) := below_alloc (Below.refl _ _) _
  have HBx := Blk.new w 36 #[.slice ca cl cc, .int .i64 0, .int .i64 bl, .int .i64 idt]
  have HFw := Lib.hid hF
  have Hpw := Lib.hid hp
  have HZ : (w.alloc (.cells #[.slice ca cl cc, .int .i64 0, .int .i64 bl, .int .i64 idt] 36)).heap.size = w.heap.size + 1 := by simp
  generalize (w.alloc (.cells #[.slice ca cl cc, .int .i64 0, .int .i64 bl, .int .i64 idt] 36)) = W at HB1 HBx HZ ⊢
  have b0 : W.cell? ⟨w.heap.size, 0, none⟩ = some (.slice ca cl cc) := HBx.cell 0
  have b2 : W.cell? ⟨w.heap.size, 2, none⟩ = some (.int .i64 bl) := HBx.cell 2
  have b3 : W.cell? ⟨w.heap.size, 3, none⟩ = some (.int .i64 idt) := HBx.cell 3
  have bp : W.cell? ⟨p, i, none⟩ = some (Value.slice a ls.length cap) := ((hp.below HB1 hp.lt).cell i).trans Hpi.out
  have Hb1 := Lib.hid HB1
  have HZ' := Lib.hid HZ
  clear hF hI hI1 hy HB HB1 HBx hp cp lp1 np np' z0 hcl' HZ
  rename_i hx1 hx2
  clear hx1 hx2
  go_region_law (first | (go_simp; go_at_call 38; refine (mkPara_any bl idt ca cl cc _ hcl hclm).mono ?_; rintro e w9 ⟨rfl, hb9⟩; have hq9 : p < w9.heap.size := (by have := hb9.size; have h2 := HZ'.out; simp at this; omega); have hp9 := ((Hpw.out.below Hb1.out Hpw.out.lt).drew).below hb9 (by have h2 := HZ'.out; simp; omega); have cp9 := (hp9.cell i).trans Hpi.out; have Hb9 := Lib.hid hb9; clear hb9 hp9 b0 b2 b3 bp) | (have HB9 := below_alloc (below_trans (Below.drew Hb1.out) Hb9.out) (.cells #[.slice ca cl cc, .int .i64 2, .int .i64 bl, .int .i64 idt] 36); have HF9 := HFw.out.keep HB9; have HP9 := Hpw.out.below HB9 Hpw.out.lt; refine step_append_fod (by rfl) _ _ 28 (by rfl) 9 36 (by decide) Tryf.underlying28 Hinfo.out base _ ls ca cl cc cs 2 bl idt ⟨w9.heap.size, 0, none⟩ 1 (by rfl) HF9 (by rfl) (Hy'.out.keep HB9) (news4 w9 _ _ rfl _ _ _ _) (by omega) (Nat.le_trans hbase HB9.size) ?_; intro v1 w1 hF1 hg1 hl1; obtain ⟨a1, n1, c1, rfl⟩ := hF1.slice; have hp1 := HP9.grownF hg1 (fun e => by obtain ⟨cs', hb'⟩ := HF9.blk e.symm; exact HP9.ne_ hb' hP1 rfl); have cp1 := (hp1.cell i).trans Hpi.out; have fp1 := hp1.frozen i; have HB8 := Lib.hid HB9; have HP8 := Lib.hid HP9; have HF1 := Lib.hid hF1; have Hg1 := Lib.hid hg1; have Hl1 := Lib.hid hl1; clear hF1 hg1 hl1 hp1 HB9 HF9 HP9 cp9 hq9))
  all_goals
    go_wp2_with fail
    go_end0
    rw [Happ.out]
    exact AppPost.done HFw.out HB8.out HP8.out Hg1.out HF1.out Hl1.out hP1 hP2
end Go.Proofs.YtnagdbnfdedejaaFmt
