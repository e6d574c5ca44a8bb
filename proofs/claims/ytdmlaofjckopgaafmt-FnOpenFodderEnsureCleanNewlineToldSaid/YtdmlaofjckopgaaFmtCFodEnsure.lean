/- FodderEnsureCleanNewline. -/
import Derived.Test.YtdmlaofjckopgaaFmtCFodAppend
namespace Go.Proofs.YtdmlaofjckopgaaFmt
open Go.ChangeShapes Go.WideShapes Go.ChangeAt Go.RowKit
set_option linter.unusedVariables false

theorem set_selfE {ps : Array Value} {i : Nat} {v : Value} (h : ps[i]? = some v) : ps.setIfInBounds i v = ps := by
  obtain ⟨hi, he⟩ := Array.getElem?_eq_some_iff.1 h
  rw [← he]
  simp [Array.setIfInBounds, hi]
theorem leElE {S : TypeId} {w : World} {g : Nat} {idt : Int} (hwi : (Lit.int .i64 idt).wf = true) (hE : Blk w g S #[]) : IsEl S w ⟨some ⟨g, 0, none⟩, 0, 0, [], 0, 0, idt⟩ :=
  ⟨⟨⟨rfl, Nat.le_refl _, Nat.zero_le _, (fun k s hs => by simp at hs), (fun h => by cases h), fun hn => absurd hn (by simp)⟩, rfl, rfl, hwi⟩, fun a ha => by
    injection ha with ha
    subst ha
    exact ⟨_, hE⟩⟩
theorem AppPost.before {S R p i PT base : Nat} {ps : Array Value} {v : Value} {ls' : List El} {w w1 w' : World} {e : Ending} (hb : Below w.heap.size w w1) (hrow : ∀ g, v.ownBlock = some g → ∃ cs, Blk w g R cs) (h : AppPost S R p i PT ps v base ls' w1 e w') : AppPost S R p i PT ps v base ls' w e w' := by
  obtain ⟨he, v', h1, h2, h3, h4⟩ := h
  refine ⟨he, v', h1, h2, ⟨h3.os.trans hb.os, h3.tape.trans hb.tape, h3.output.trans hb.output, Nat.le_trans hb.size h3.size, fun k hk hp hr => (h3.block k (Nat.lt_of_lt_of_le hk hb.size) hp hr).trans (hb.block k hk), hrow⟩, fun g hg => ?_⟩
  rcases h4 g hg with h | h
  · exact Or.inl h
  · exact Or.inr (Nat.le_trans hb.size h)

set_option maxHeartbeats 800000 in
theorem ensure_any (p i PT : Nat) (ps : Array Value) (v : Value) (ls : List El) (base : Nat) (w : World) (hp : Blk w p PT ps) (hpi : ps[i]? = some v) (hP1 : PT ≠ 50) (hP2 : PT ≠ 9)
    (hF : Fodd 9 50 base w v ls) (hl : ls.length ≤ 4194302) (hbase : base ≤ w.heap.size) :
    Calls Tryf.prog 9 #[.pointer (some ⟨p, i, none⟩)] w (AppPost 9 50 p i PT ps v base (ens ls) w) := by
  have cp : w.cell? ⟨p, i, none⟩ = some v := (hp.cell i).trans hpi
  obtain ⟨a, cap, fs, hv, hI, hmap, _, _⟩ := hF.form
  have hI' : IsFEs w a ls.length cap fs := hI
  cases hc : closed ls with
  | true =>
    have Hres : Hid (AppPost 9 50 p i PT ps v base (ens ls) w (.returned (.tuple #[])) w) :=
      ⟨rfl, v, by rw [set_selfE hpi]; exact hp, by rw [ens, if_pos hc]; exact hF, Fr.of_below (Below.refl _ _) (fun g hg => hF.blk hg), fun g hg => Or.inl hg⟩
    have Hc := Lib.hid hc
    have Hmap := Lib.hid hmap
    clear hp hpi hF hc hmap hI
    subst hv
    go_enter Tryf.func9, Tryf.ntmps9
    go_wp2_with fail
    refine (clean_any _ _ _ fs _ hI').mono ?_
    rintro e w' ⟨he, rfl⟩
    rw [Hmap.out, Hc.out] at he
    subst he
    go_wp2_with fail
    go_end0
    exact Hres.out
  | false =>
    have Hc := Lib.hid hc
    have Hmap := Lib.hid hmap
    have Hens : Hid (app ls ⟨false, [], 0, 0, 0⟩ = ens ls) := by
      simp only [Hid]
      rw [ens, if_neg (by simp [hc])]
      exact app_le0 hc
    have Hp := Lib.hid hp
    have Hpi := Lib.hid hpi
    have HF := Lib.hid hF
    clear hp hpi hF hc hmap hI
    subst hv
    go_enter Tryf.func9, Tryf.ntmps9
    go_wp2_with fail
    refine (clean_any _ _ _ fs _ hI').mono ?_
    rintro e w' ⟨he, rfl⟩
    rw [Hmap.out, Hc.out] at he
    subst he
    go_wp2_with fail
    refine (mkLe_any 0 _ _).mono ?_
    rintro e w2 ⟨rfl, hb2⟩
    have hE : Blk w2 w.heap.size 9 #[] := (Blk.new w 9 #[]).below hb2 (by simp)
    have hB2 := below_trans (below_alloc (Below.refl w.heap.size w) _) hb2
    clear hb2
    go_wp2_with fail
    refine (append_c2 p i PT ps _ ls _ 0 0 [] 0 0 0 base _ (Hp.out.below hB2 Hp.out.lt) Hpi.out hP1 hP2 (HF.out.keep hB2) (leElE rfl hE) hl (Nat.le_trans hbase hB2.size) Hc.out (by decide)).mono ?_
    intro e w3 hA
    have hA' := AppPost.before hB2 (fun g hg => HF.out.blk hg) hA
    obtain ⟨he, -⟩ := hA
    subst he
    have HA : Hid (AppPost 9 50 p i PT ps (Value.slice a ls.length cap) base (ens ls) w (.returned (.tuple #[])) w3) := by rw [← Hens.out]; exact hA'
    clear hA'
    go_wp2_with fail
    go_end0
    exact HA.out
end Go.Proofs.YtdmlaofjckopgaaFmt
