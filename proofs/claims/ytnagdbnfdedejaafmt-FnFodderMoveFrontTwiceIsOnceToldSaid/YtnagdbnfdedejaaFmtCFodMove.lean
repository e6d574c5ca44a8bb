/- FodderMoveFront. -/
import Derived.Test.YtnagdbnfdedejaaFmtCFodConcat
namespace Go.Proofs.YtnagdbnfdedejaaFmt
open Go.ChangeShapes Go.WideShapes Go.ChangeAt Go.RowKit
set_option linter.unusedVariables false

/-- w' is w but for the variables p and q, the row r, and what is new. -/
structure Fr2 (p q : Nat) (r : Option Nat) (w w' : World) : Prop where
  os : w'.os = w.os
  tape : w'.tape = w.tape
  output : w'.output = w.output
  size : w.heap.size ≤ w'.heap.size
  block : ∀ k, k < w.heap.size → k ≠ p → k ≠ q → some k ≠ r → w'.heap[k]? = w.heap[k]?
  pt : ∃ cs, Blk w p 28 cs
  qt : ∃ cs, Blk w q 28 cs
  row : ∀ g, r = some g → ∃ cs, Blk w g 36 cs
section
variable {p q : Nat} {r : Option Nat} {w w' : World}
theorem Fr2.blk (h : Fr2 p q r w w') {k t : Nat} {cs : Array Value} (hb : Blk w k t cs) (hp : k ≠ p) (hq : k ≠ q) (hr : some k ≠ r) : Blk w' k t cs := (h.block k hb.lt hp hq hr).trans hb
theorem Fr2.other (h : Fr2 p q r w w') {k t : Nat} {cs : Array Value} (hb : Blk w k t cs) (h1 : t ≠ 28) (h2 : t ≠ 36) : Blk w' k t cs := by
  obtain ⟨cp, hp⟩ := h.pt
  obtain ⟨cq, hq⟩ := h.qt
  refine h.blk hb (hb.ne_ hp h1) (hb.ne_ hq h1) fun e => ?_
  obtain ⟨cs', hb'⟩ := h.row k e.symm
  exact hb.ne_ hb' h2 rfl
theorem Fr2.var (h : Fr2 p q r w w') {k : Nat} {cs : Array Value} (hb : Blk w k 28 cs) (hp : k ≠ p) (hq : k ≠ q) : Blk w' k 28 cs :=
  h.blk hb hp hq fun e => by
    obtain ⟨cs', hb'⟩ := h.row k e.symm
    exact hb.ne_ hb' (by decide) rfl
theorem Fodd.fr2 {base : Nat} {v : Value} {ls : List El} (h : Fodd 9 39 base w v ls) (hf : Fr2 p q r w w') : Fodd 9 39 base w' v ls :=
  h.moved hf.size (fun k cs hk => hf.other hk (by decide) (by decide)) fun g cs _ hk => hf.other hk (by decide) (by decide)
theorem Fodd.fr2row {base : Nat} {v : Value} {ls : List El} (h : Fodd 9 36 base w v ls) (hf : Fr2 p q r w w') (hr : ∀ g, v.ownBlock = some g → some g ≠ r) : Fodd 9 36 base w' v ls :=
  h.moved hf.size (fun k cs hk => hf.other hk (by decide) (by decide)) fun g cs hg hk => by
    obtain ⟨cp, hp⟩ := hf.pt
    obtain ⟨cq, hq⟩ := hf.qt
    exact hf.blk hk (hk.ne_ hp (by decide)) (hk.ne_ hq (by decide)) (hr g hg)
theorem below_fr2 {a : World} (h : Below a.heap.size a w) (hf : Fr2 p q r w w') (hp : a.heap.size ≤ p) (hq : a.heap.size ≤ q) (hr : ∀ g, r = some g → a.heap.size ≤ g) : Below a.heap.size a w' :=
  h.trans ⟨hf.os, hf.tape, hf.output, hf.size, fun k hk => hf.block k (Nat.lt_of_lt_of_le hk h.size) (by omega) (by omega) (fun e => by have := hr k e.symm; omega)⟩
end

/-- What FodderMoveFront leaves: a reads as b then a, b is empty and not nil. -/
def MvPost (base p q : Nat) (va vb : Value) (ls : List El) (w : World) (e : Ending) (w' : World) : Prop :=
  e = .returned (.tuple #[]) ∧ ∃ va' g, Blk w' p 28 #[va'] ∧ Blk w' q 28 #[.slice (some ⟨g, 0, none⟩) 0 0] ∧ Fodd 9 36 base w' va' ls ∧ Fr2 p q vb.ownBlock w w' ∧
    (∀ k, va'.ownBlock = some k → vb.ownBlock = some k ∨ va.ownBlock = some k ∨ w.heap.size ≤ k)

theorem MvPost.done {base p q : Nat} {va vb v1 : Value} {ls : List El} {w w1 : World} {o : Obj} {g : Nat} (hpq : ¬ p = q) (hp : Blk w p 28 #[va]) (hq : Blk w q 28 #[vb]) (hp1 : Blk w1 p 28 #[va]) (hq1 : Blk w1 q 28 #[vb])
    (hF : Fodd 9 36 base w1 v1 ls) (hFr : Fr 36 none vb.ownBlock w.drew w1) (hl : ∀ g, v1.ownBlock = some g → vb.ownBlock = some g ∨ va.ownBlock = some g ∨ w.drew.heap.size ≤ g) :
    MvPost base p q va vb ls w (.returned (.tuple #[])) (((w1.setCell ⟨p, 0, none⟩ v1).setCell ⟨q, 0, none⟩ (.slice (some ⟨g, 0, none⟩) 0 0)).alloc o) := by
  have h1 : Blk (w1.setCell ⟨p, 0, none⟩ v1) p 28 #[v1] := by have := hp1.set_ 0 v1; simpa using this
  have h2 : Blk (w1.setCell ⟨p, 0, none⟩ v1) q 28 #[vb] := hq1.far (p := ⟨p, 0, none⟩) (fun e => hpq e.symm) v1
  have h3 : Blk ((w1.setCell ⟨p, 0, none⟩ v1).setCell ⟨q, 0, none⟩ (.slice (some ⟨g, 0, none⟩) 0 0)) q 28 #[.slice (some ⟨g, 0, none⟩) 0 0] := by have := h2.set_ 0 (.slice (some ⟨g, 0, none⟩) 0 0); simpa using this
  have h4 := h1.far (p := ⟨q, 0, none⟩) hpq (.slice (some ⟨g, 0, none⟩) 0 0)
  have hF2 := (hF.far hp1 (by decide) (by decide) v1 (i := 0)).far h2 (by decide) (by decide) (.slice (some ⟨g, 0, none⟩) 0 0) (i := 0)
  refine ⟨rfl, v1, g, h4.alloc o, h3.alloc o, hF2.keep (below_alloc (Below.refl _ _) o), ?_, hl⟩
  refine ⟨hFr.os, hFr.tape, hFr.output, ?_, fun k hk hkp hkq hr => ?_, ⟨_, hp⟩, ⟨_, hq⟩, hFr.row⟩
  · have := hFr.size
    have e : w.drew.heap.size = w.heap.size := rfl
    simp [World.setCell]
    omega
  · have hk1 : k < w1.heap.size := Nat.lt_of_lt_of_le hk hFr.size
    have e1 := Below.heap_setCell w1 ⟨p, 0, none⟩ v1 k hkp
    have e2 := Below.heap_setCell (w1.setCell ⟨p, 0, none⟩ v1) ⟨q, 0, none⟩ (.slice (some ⟨g, 0, none⟩) 0 0) k hkq
    have e3 := Below.heap_alloc ((w1.setCell ⟨p, 0, none⟩ v1).setCell ⟨q, 0, none⟩ (.slice (some ⟨g, 0, none⟩) 0 0)) o k (by simpa [World.setCell] using hk1)
    exact ((e3.trans e2).trans e1).trans (hFr.block k hk (by simp) hr)

set_option maxHeartbeats 1600000 in
theorem move_any (p q : Nat) (va vb : Value) (la lb : List El) (base : Nat) (w : World) (hp : Blk w p 28 #[va]) (hq : Blk w q 28 #[vb]) (hpq : p ≠ q) (hA : Fodd 9 36 base w va la) (hB : Fodd 9 36 base w vb lb)
    (hne : ∀ g, va.ownBlock = some g → vb.ownBlock ≠ some g) (hl : lb.length + la.length ≤ 4194300) (hbase : base ≤ w.heap.size) :
    Calls Tryf.prog 21 #[.pointer (some ⟨p, 0, none⟩), .pointer (some ⟨q, 0, none⟩)] w (MvPost base p q va vb (cat lb la) w) := by
  obtain ⟨aa, na, capa, rfl⟩ := hA.slice
  obtain ⟨ab, nb, capb, rfl⟩ := hB.slice
  have cp : w.cell? ⟨p, 0, none⟩ = some (.slice aa na capa) := hp.cell 0
  have cq : w.cell? ⟨q, 0, none⟩ = some (.slice ab nb capb) := hq.cell 0
  have hpq' : ¬ q = p := fun e => hpq e.symm
  have hpq'' : ¬ p = q := hpq
  have HA := Lib.hid hA
  have HB := Lib.hid hB
  have Hp := Lib.hid hp
  have Hq := Lib.hid hq
  have Hne := Lib.hid hne
  have lp := hp.lt
  have lq := hq.lt
  clear hA hB hp hq hne hpq
  go_enter Tryf.func21, Tryf.ntmps21
  go_wp2_with fail
  go_region_law (first | (go_simp; go_at_call 13; refine (concat_any _ _ lb la base _ (HB.out.keep (Below.drew (Below.refl _ _))) (HA.out.keep (Below.drew (Below.refl _ _))) Hne.out hl hbase).mono ?_; rintro e w1 ⟨v1, rfl, hF1, hFr1, hl1⟩; obtain ⟨a1, n1, c1, rfl⟩ := hF1.slice; have hp1 := hFr1.other Hp.out.drew (by simp) (by decide); have hq1 := hFr1.other Hq.out.drew (by simp) (by decide); have cp1 : w1.cell? ⟨p, 0, none⟩ = some (.slice aa na capa) := hp1.cell 0; have cq1 : w1.cell? ⟨q, 0, none⟩ = some (.slice ab nb capb) := hq1.cell 0; have fp1 := hp1.frozen 0; have fq1 := hq1.frozen 0; have lp1 := hp1.lt; have lq1 := hq1.lt; have HF1 := Lib.hid hF1; have HFr1 := Lib.hid hFr1; have Hl1 := Lib.hid hl1; have Hp1 := Lib.hid hp1; have Hq1 := Lib.hid hq1; clear hF1 hFr1 hl1 hp1 hq1))
  all_goals
    go_wp2
    go_end0
    exact MvPost.done hpq'' Hp.out Hq.out Hp1.out Hq1.out HF1.out HFr1.out Hl1.out
end Go.Proofs.YtnagdbnfdedejaaFmt
