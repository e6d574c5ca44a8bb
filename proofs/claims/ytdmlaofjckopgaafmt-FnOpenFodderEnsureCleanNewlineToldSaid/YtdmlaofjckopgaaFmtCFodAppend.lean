/- FodderAppend. -/
import Derived.Test.YtdmlaofjckopgaaFmtCFodClean
import Derived.Deep.RegionLaw
import Derived.Deep.RegionHeld3
namespace Go.Proofs.YtdmlaofjckopgaaFmt
open Go.ChangeShapes Go.WideShapes Go.ChangeAt Go.RowKit
set_option linter.unusedVariables false

/-- What FodderAppend leaves: the variable at ⟨p, i⟩ holds a fodder that reads as the new list; nothing else has turned but the old row. -/
def AppPost (S R p i PT : Nat) (ps : Array Value) (v : Value) (base : Nat) (ls' : List El) (w : World) (e : Ending) (w' : World) : Prop :=
  e = .returned (.tuple #[]) ∧ ∃ v', Blk w' p PT (ps.setIfInBounds i v') ∧ Fodd S R base w' v' ls' ∧ Fr R (some p) v.ownBlock w w' ∧ (∀ g, v'.ownBlock = some g → v.ownBlock = some g ∨ w.heap.size ≤ g)
theorem AppPost.done {S R p i PT base : Nat} {ps : Array Value} {v v' : Value} {ls ls' : List El} {w w2 w1 : World} (hF : Fodd S R base w v ls) (hb : Below w.heap.size w w2) (hp2 : Blk w2 p PT ps) (hg : w2.grownBy w1 v.ownBlock) (hF1 : Fodd S R base w1 v' ls')
    (hl : v'.ownBlock = v.ownBlock ∨ v'.ownBlock = some w2.heap.size) (hP1 : PT ≠ R) (hP2 : PT ≠ S) : AppPost S R p i PT ps v base ls' w (.returned (.tuple #[])) (w1.setCell ⟨p, i, none⟩ v') := by
  have hp1 : Blk w1 p PT ps := hp2.grownF hg fun e => by
    obtain ⟨cs', hb'⟩ := hF.blk e.symm
    exact hp2.ne_ (hb'.below hb hb'.lt) hP1 rfl
  refine ⟨rfl, v', hp1.set_ i v', hF1.far hp1 hP1 hP2 v', ?_, fun g hgv => ?_⟩
  · have h1 : Fr R (some p) v.ownBlock w w1 := ⟨hg.os.trans hb.os, hg.tape.trans hb.tape, hg.output.trans hb.output, Nat.le_trans hb.size hg.size, fun k hk _ hne => (hg.block k (Nat.lt_of_lt_of_le hk hb.size) hne).trans (hb.block k hk), fun g hgv => hF.blk hgv⟩
    exact h1.set_p v'
  · rcases hl with h | h
    · exact Or.inl (h.symm.trans hgv)
    · rw [hgv] at h
      injection h with h
      exact Or.inr (by rw [h]; exact hb.size)

theorem AppPost.trans {S R p i PT base : Nat} {ps : Array Value} {v v1 : Value} {ls2 : List El} {w w3 w5 : World} {e : Ending} (hFr : Fr R (some p) v.ownBlock w w3) (hloc : ∀ g, v1.ownBlock = some g → v.ownBlock = some g ∨ w.heap.size ≤ g)
    (h2 : AppPost S R p i PT (ps.setIfInBounds i v1) v1 base ls2 w3 e w5) : AppPost S R p i PT ps v base ls2 w e w5 := by
  obtain ⟨he, v2, hB, hF, hFr2, hloc2⟩ := h2
  refine ⟨he, v2, by simpa using hB, hF, hFr.trans hFr2 (fun g hg hlt => ?_), fun g hg => ?_⟩
  · rcases hloc g hg with h | h
    · exact h
    · omega
  · rcases hloc2 g hg with h | h
    · exact hloc g h
    · exact Or.inr (Nat.le_trans hFr.size h)

set_option maxHeartbeats 1600000 in
theorem append_c1 (p i PT : Nat) (ps : Array Value) (v : Value) (ls : List El) (ca : Option Addr) (cl cc : Nat) (cs : List ByteArray) (kd bl idt : Int) (base : Nat) (w : World) (hp : Blk w p PT ps) (hpi : ps[i]? = some v) (hP1 : PT ≠ 50) (hP2 : PT ≠ 9)
    (hF : Fodd 9 50 base w v ls) (hy : IsEl 9 w ⟨ca, cl, cc, cs, kd, bl, idt⟩) (hl : ls.length ≤ 4194302) (hbase : base ≤ w.heap.size) (hc : closed ls = true) (hk : ¬ kd = 0) :
    Calls Tryf.prog 14 #[.pointer (some ⟨p, i, none⟩), .agg #[.slice ca cl cc, .int .i64 kd, .int .i64 bl, .int .i64 idt]] w (AppPost 9 50 p i PT ps v base (app ls ⟨ca.isNone, cs, kd, bl, idt⟩) w) := by
  have cp : w.cell? ⟨p, i, none⟩ = some v := (hp.cell i).trans hpi
  obtain ⟨a, cap, fs, rfl, hI, hmap, _, _⟩ := hF.form
  have lp := hp.lt
  have lp1 : p < w.heap.size + 1 := by omega
  have np : ¬ p = w.heap.size := by omega
  have np' : ¬ w.heap.size = p := by omega
  have Hc := Lib.hid hc
  have Hmap := Lib.hid hmap
  have HB : ∀ o, Below w.heap.size w (w.alloc o) := fun o => below_alloc (Below.refl _ _) o
  have hI1 := hI.keep (HB (.cells #[.slice ca cl cc, .int .i64 kd, .int .i64 bl, .int .i64 idt] 50))
  have Hpi := Lib.hid hpi
  have k0 : (kd == 0) = false := by simpa using hk
  have Hfit : Hid (fits ls ⟨ca.isNone, cs, kd, bl, idt⟩) := ⟨fun h => absurd h hk, fun _ => hc⟩
  clear hk
  clear hc hmap hpi
  go_enter Tryf.func14, Tryf.ntmps14
  go_wp2_with fail
  refine (clean_any _ _ _ fs _ hI1).mono ?_
  rintro e w' ⟨he, rfl⟩
  rw [Hmap.out, Hc.out] at he
  subst he
  go_wp2_with fail
  refine (clean_any _ _ _ fs _ hI1).mono ?_
  rintro e w' ⟨he, rfl⟩
  rw [Hmap.out, Hc.out] at he
  subst he
  go_wp2_with fail
  have HB2 : Below w.heap.size w (((w.alloc (.cells #[.slice ca cl cc, .int .i64 kd, .int .i64 bl, .int .i64 idt] 50)).alloc (.cells #[.slice ca cl cc, .int .i64 kd, .int .i64 bl, .int .i64 idt] 50)).drew) := Below.drew (below_alloc (below_alloc (Below.refl _ _) _) _)
  have HF2 := Lib.hid (hF.keep HB2)
  have Hy2 := Lib.hid (hy.keep HB2)
  have Hp2 := Lib.hid (hp.below HB2 hp.lt)
  have Hn2 : Hid (∀ j u, ([Value.slice ca cl cc, .int .i64 kd, .int .i64 bl, .int .i64 idt] : List Value)[j]? = some u → ((((w.alloc (.cells #[.slice ca cl cc, .int .i64 kd, .int .i64 bl, .int .i64 idt] 50)).alloc (.cells #[.slice ca cl cc, .int .i64 kd, .int .i64 bl, .int .i64 idt] 50)).drew)).cell? (Addr.add ⟨w.heap.size + 1, 0, none⟩ j) = some u) := news4 (w.alloc (.cells #[.slice ca cl cc, .int .i64 kd, .int .i64 bl, .int .i64 idt] 50)) _ _ (by simp) _ _ _ _
  have Hz2 : Hid (base ≤ ((((w.alloc (.cells #[.slice ca cl cc, .int .i64 kd, .int .i64 bl, .int .i64 idt] 50)).alloc (.cells #[.slice ca cl cc, .int .i64 kd, .int .i64 bl, .int .i64 idt] 50)).drew)).heap.size) := by simp [Hid]; omega
  have HFw := Lib.hid hF
  have Hb2 := Lib.hid HB2
  clear hF hI hI1 hy HB HB2 hp
  go_region_law ((refine step_append_fod (by rfl) _ _ 26 (by rfl) 9 50 (by decide) Tryf.underlying26 (by kernel_rfl) base _ ls ca cl cc cs kd bl idt ⟨w.heap.size + 1, 0, none⟩ 1 (by rfl) HF2.out (by rfl) Hy2.out Hn2.out (by omega) Hz2.out ?_; intro v1 w1 hF1 hg1 hl1; obtain ⟨a1, n1, c1, rfl⟩ := hF1.slice; have hp1 := Hp2.out.grownF hg1 (fun e => by obtain ⟨cs', hb'⟩ := HF2.out.blk e.symm; exact Hp2.out.ne_ hb' hP1 rfl); have cp1 := (hp1.cell i).trans Hpi.out; have fp1 := hp1.frozen i; have HF1 := Lib.hid hF1; have Hg1 := Lib.hid hg1; have Hl1 := Lib.hid hl1; clear hF1 hg1 hl1 hp1))
  all_goals
    go_wp2_with fail
    go_end0
    rw [app_fits Hfit.out]
    exact AppPost.done HFw.out Hb2.out Hp2.out Hg1.out HF1.out Hl1.out hP1 hP2

set_option maxHeartbeats 1600000 in
theorem append_c2 (p i PT : Nat) (ps : Array Value) (v : Value) (ls : List El) (ca : Option Addr) (cl cc : Nat) (cs : List ByteArray) (kd bl idt : Int) (base : Nat) (w : World) (hp : Blk w p PT ps) (hpi : ps[i]? = some v) (hP1 : PT ≠ 50) (hP2 : PT ≠ 9)
    (hF : Fodd 9 50 base w v ls) (hy : IsEl 9 w ⟨ca, cl, cc, cs, kd, bl, idt⟩) (hl : ls.length ≤ 4194302) (hbase : base ≤ w.heap.size) (hc : closed ls = false) (hk : ¬ kd = 2) :
    Calls Tryf.prog 14 #[.pointer (some ⟨p, i, none⟩), .agg #[.slice ca cl cc, .int .i64 kd, .int .i64 bl, .int .i64 idt]] w (AppPost 9 50 p i PT ps v base (app ls ⟨ca.isNone, cs, kd, bl, idt⟩) w) := by
  have cp : w.cell? ⟨p, i, none⟩ = some v := (hp.cell i).trans hpi
  obtain ⟨a, cap, fs, rfl, hI, hmap, _, _⟩ := hF.form
  have lp := hp.lt
  have lp1 : p < w.heap.size + 1 := by omega
  have np : ¬ p = w.heap.size := by omega
  have np' : ¬ w.heap.size = p := by omega
  have Hc := Lib.hid hc
  have Hmap := Lib.hid hmap
  have HB : ∀ o, Below w.heap.size w (w.alloc o) := fun o => below_alloc (Below.refl _ _) o
  have hI1 := hI.keep (HB (.cells #[.slice ca cl cc, .int .i64 kd, .int .i64 bl, .int .i64 idt] 50))
  have Hpi := Lib.hid hpi
  have k0 : (kd == 2) = false := by simpa using hk
  have Hfit : Hid (fits ls ⟨ca.isNone, cs, kd, bl, idt⟩) := ⟨fun _ => hc, fun h => absurd h hk⟩
  clear hk
  clear hc hmap hpi
  go_enter Tryf.func14, Tryf.ntmps14
  go_wp2_with fail
  refine (clean_any _ _ _ fs _ hI1).mono ?_
  rintro e w' ⟨he, rfl⟩
  rw [Hmap.out, Hc.out] at he
  subst he
  go_wp2_with fail
  refine (clean_any _ _ _ fs _ hI1).mono ?_
  rintro e w' ⟨he, rfl⟩
  rw [Hmap.out, Hc.out] at he
  subst he
  go_wp2_with fail
  have HB2 : Below w.heap.size w (((w.alloc (.cells #[.slice ca cl cc, .int .i64 kd, .int .i64 bl, .int .i64 idt] 50)).alloc (.cells #[.slice ca cl cc, .int .i64 kd, .int .i64 bl, .int .i64 idt] 50)).drew) := Below.drew (below_alloc (below_alloc (Below.refl _ _) _) _)
  have HF2 := Lib.hid (hF.keep HB2)
  have Hy2 := Lib.hid (hy.keep HB2)
  have Hp2 := Lib.hid (hp.below HB2 hp.lt)
  have Hn2 : Hid (∀ j u, ([Value.slice ca cl cc, .int .i64 kd, .int .i64 bl, .int .i64 idt] : List Value)[j]? = some u → ((((w.alloc (.cells #[.slice ca cl cc, .int .i64 kd, .int .i64 bl, .int .i64 idt] 50)).alloc (.cells #[.slice ca cl cc, .int .i64 kd, .int .i64 bl, .int .i64 idt] 50)).drew)).cell? (Addr.add ⟨w.heap.size + 1, 0, none⟩ j) = some u) := news4 (w.alloc (.cells #[.slice ca cl cc, .int .i64 kd, .int .i64 bl, .int .i64 idt] 50)) _ _ (by simp) _ _ _ _
  have Hz2 : Hid (base ≤ ((((w.alloc (.cells #[.slice ca cl cc, .int .i64 kd, .int .i64 bl, .int .i64 idt] 50)).alloc (.cells #[.slice ca cl cc, .int .i64 kd, .int .i64 bl, .int .i64 idt] 50)).drew)).heap.size) := by simp [Hid]; omega
  have HFw := Lib.hid hF
  have Hb2 := Lib.hid HB2
  clear hF hI hI1 hy HB HB2 hp
  go_region_law ((refine step_append_fod (by rfl) _ _ 26 (by rfl) 9 50 (by decide) Tryf.underlying26 (by kernel_rfl) base _ ls ca cl cc cs kd bl idt ⟨w.heap.size + 1, 0, none⟩ 1 (by rfl) HF2.out (by rfl) Hy2.out Hn2.out (by omega) Hz2.out ?_; intro v1 w1 hF1 hg1 hl1; obtain ⟨a1, n1, c1, rfl⟩ := hF1.slice; have hp1 := Hp2.out.grownF hg1 (fun e => by obtain ⟨cs', hb'⟩ := HF2.out.blk e.symm; exact Hp2.out.ne_ hb' hP1 rfl); have cp1 := (hp1.cell i).trans Hpi.out; have fp1 := hp1.frozen i; have HF1 := Lib.hid hF1; have Hg1 := Lib.hid hg1; have Hl1 := Lib.hid hl1; clear hF1 hg1 hl1 hp1))
  all_goals
    go_wp2_with fail
    go_end0
    rw [app_fits Hfit.out]
    exact AppPost.done HFw.out Hb2.out Hp2.out Hg1.out HF1.out Hl1.out hP1 hP2

end Go.Proofs.YtdmlaofjckopgaaFmt
