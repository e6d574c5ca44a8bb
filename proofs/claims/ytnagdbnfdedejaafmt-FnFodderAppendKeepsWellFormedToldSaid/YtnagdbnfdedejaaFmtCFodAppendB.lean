/- FodderAppend: a line end without a comment behind a clean end is merged into the last element. -/
import Derived.Test.YtnagdbnfdedejaaFmtCFodAppend
namespace Go.Proofs.YtnagdbnfdedejaaFmt
open Go.ChangeShapes Go.WideShapes Go.ChangeAt Go.RowKit
set_option linter.unusedVariables false

theorem Below.drewN_alloc (w : World) (o : Obj) (n : Nat) : Below w.heap.size w ((w.alloc o).drewN n) := below_drewN (below_alloc (Below.refl _ _) _) _
theorem set_self {ps : Array Value} {i : Nat} {v : Value} (h : ps[i]? = some v) : ps.setIfInBounds i v = ps := by
  obtain ⟨hi, he⟩ := Array.getElem?_eq_some_iff.1 h
  rw [← he]
  simp [Array.setIfInBounds, hi]
theorem merge_done {p i PT base b n cap : Nat} {ps : Array Value} {l' : List El} {x : El} {y : FEl} {w W : World} {bl idt : Int} {nl : Bool} (hp : Blk w p PT ps) (hpi : ps[i]? = some (Value.slice (some ⟨b, 0, none⟩) (n + 1) cap))
    (hF : Fodd 9 36 base w (Value.slice (some ⟨b, 0, none⟩) (n + 1) cap) (l' ++ [x])) (hn : n = l'.length) (hyx : y.el = x) (hfe : IsFE w y) (hwi : (Lit.int .i64 idt).wf = true) (hB : Below w.heap.size w W) (hP1 : PT ≠ 36) (hP2 : PT ≠ 9) :
    AppPost 9 36 p i PT ps (Value.slice (some ⟨b, 0, none⟩) (l' ++ [x]).length cap) base (l' ++ [mrg x ⟨nl, [], 0, bl, idt⟩]) w (.returned (.tuple #[])) ((W.setCell ⟨b, n * 4 + 3, none⟩ (.int .i64 idt)).setCell ⟨b, n * 4 + 2, none⟩ (.int .i64 (wrap64 (y.blanks + bl)))).drew := by
  have hlen : (l' ++ [x]).length = n + 1 := by simp [hn]
  rw [hlen]
  have hx : (l' ++ [x])[n]? = some x := by rw [hn, List.getElem?_append_right (Nat.le_refl _), Nat.sub_self]; rfl
  obtain ⟨csb, hBb⟩ := hF.blk (g := b) rfl
  have hpW := hp.below hB hp.lt
  have hbW := hBb.below hB hBb.lt
  have hne : p ≠ b := hp.ne_ hBb hP1
  have h1 := (hF.keep hB).put2 (by decide) (show n < n + 1 by omega) hx (wrap64 (y.blanks + bl)) idt (wrap64_wf _) hwi
  have e : (l' ++ [x]).set n ⟨x.nl, x.cs, x.kind, wrap64 (y.blanks + bl), idt⟩ = l' ++ [mrg x ⟨nl, [], 0, bl, idt⟩] := by
    rw [hn, List.set_append_right _ _ (Nat.le_refl _), Nat.sub_self, List.set_cons_zero, ← hyx]
    rfl
  rw [e] at h1
  refine ⟨rfl, _, ?_, h1.keep (Below.drew (Below.refl _ _)), ?_, fun g hg => Or.inl hg⟩
  · rw [set_self hpi]
    exact ((hpW.far (p := ⟨b, n * 4 + 3, none⟩) hne _).far (p := ⟨b, n * 4 + 2, none⟩) hne _).drew
  · refine ⟨hB.os, hB.tape, hB.output, by have := hB.size; simpa [World.setCell, World.drew] using this, fun k hk _ hr => ?_, fun g hg => ?_⟩
    · have hkb : k ≠ b := fun e => hr (by rw [e]; rfl)
      have h2 := (Below.heap_setCell (W.setCell ⟨b, n * 4 + 3, none⟩ (.int .i64 idt)) ⟨b, n * 4 + 2, none⟩ (.int .i64 (wrap64 (y.blanks + bl))) k hkb).trans (Below.heap_setCell W ⟨b, n * 4 + 3, none⟩ (.int .i64 idt) k hkb)
      exact h2.trans (hB.block k hk)
    · have : b = g := by simpa [Value.ownBlock] using hg
      subst this
      exact ⟨csb, hBb⟩

set_option maxHeartbeats 1600000 in
theorem append_b (p i PT : Nat) (ps : Array Value) (v : Value) (ls : List El) (ca : Option Addr) (cc : Nat) (cs : List ByteArray) (bl idt : Int) (base : Nat) (w : World) (hp : Blk w p PT ps) (hpi : ps[i]? = some v) (hP1 : PT ≠ 36) (hP2 : PT ≠ 9)
    (hF : Fodd 9 36 base w v ls) (hy : IsEl 9 w ⟨ca, 0, cc, cs, 0, bl, idt⟩) (hl : ls.length ≤ 4194302) (hbase : base ≤ w.heap.size) (hc : closed ls = true) :
    Calls Tryf.prog 15 #[.pointer (some ⟨p, i, none⟩), .agg #[.slice ca 0 cc, .int .i64 0, .int .i64 bl, .int .i64 idt]] w (AppPost 9 36 p i PT ps v base (app ls ⟨ca.isNone, cs, 0, bl, idt⟩) w) := by
  have cp : w.cell? ⟨p, i, none⟩ = some v := (hp.cell i).trans hpi
  obtain ⟨a, cap, fs, rfl, hI, hmap, hform, _⟩ := hF.form
  rcases List.eq_nil_or_concat ls with rfl | ⟨l', x, rfl⟩
  · cases hc
  rw [List.concat_eq_append] at *
  have hcs0 : cs = [] := List.eq_nil_of_length_eq_zero hy.fe.strs.len
  subst hcs0
  have Happ : Hid (app (l' ++ [x]) ⟨ca.isNone, [], 0, bl, idt⟩ = l' ++ [mrg x ⟨ca.isNone, [], 0, bl, idt⟩]) := app_mrg ⟨hc, rfl, rfl⟩
  obtain ⟨n, hn⟩ : ∃ n, n = l'.length := ⟨_, rfl⟩
  have hlen : (l' ++ [x]).length = n + 1 := by simp [hn]
  rw [hlen] at hI cp hF hpi hl
  obtain ⟨b, off, y, hab, hblt, hy0, hfe, c0, c1, c2, c3⟩ := hI.at_ (show n < n + 1 by omega)
  have hoff : off = 0 := by
    rcases hform with h | ⟨g, h⟩
    · rw [h] at hab; cases hab
    · rw [h] at hab; injection hab with hab; injection hab with _ hab; omega
  subst hoff
  subst hab
  rw [Nat.zero_add] at c0 c1 c2 c3
  have hyx : y.el = x := by
    have h1 : (fs.map FEl.el)[n]? = some y.el := by rw [List.getElem?_map, hy0]; rfl
    rw [hmap, hn, List.getElem?_append_right (Nat.le_refl _), Nat.sub_self] at h1
    exact (Option.some.inj h1).symm
  have lp := hp.lt
  have lp1 : p < w.heap.size + 1 := by omega
  have np : ¬ p = w.heap.size := by omega
  have np' : ¬ w.heap.size = p := by omega
  have nb : ¬ b = w.heap.size := by omega
  have nb' : ¬ w.heap.size = b := by omega
  have hB0 := hF.blk (g := b) rfl
  have Hc := Lib.hid hc
  have Hmap := Lib.hid hmap
  have HB : ∀ o, Below w.heap.size w (w.alloc o) := fun o => below_alloc (Below.refl _ _) o
  have hI1 := hI.keep (HB (.cells #[.slice ca 0 cc, .int .i64 0, .int .i64 bl, .int .i64 idt] 36))
  have Hpi := Lib.hid hpi
  have Hyx := Lib.hid hyx
  have Hfe := Lib.hid hfe
  have Hy := Lib.hid hy
  obtain ⟨csb, hBb⟩ := hB0
  have f2 := hBb.frozen (n * 4 + 2)
  have f3 := hBb.frozen (n * 4 + 3)
  have i0 : (0 : Int) ≤ (n : Int) := by omega
  have i1 : (n : Int) < (n : Int) + 1 := by omega
  have hb1 : b < w.heap.size + 1 := by omega
  have Hn := Lib.hid hn
  clear hc hmap hpi hyx hfe hy hy0 hn hlen
  go_enter Tryf.func15, Tryf.ntmps15
  go_wp2_with fail
  refine (clean_any _ _ _ fs _ hI1).mono ?_
  rintro e w' ⟨he, rfl⟩
  rw [Hmap.out, Hc.out] at he
  subst he
  have HFw := Lib.hid hF
  have Hpw := Lib.hid hp
  have HBb := Lib.hid hBb
  clear hI hI1 hform HB hF hp hBb
  go_wp2_with fail
  go_quiet (fail)
  go_wp2_with fail
  go_region
  all_goals
    go_end0
    rw [Happ.out]
    exact merge_done Hpw.out Hpi.out HFw.out Hn.out Hyx.out Hfe.out Hy.out.fe.wi (Below.drewN_alloc _ _ _) hP1 hP2
end Go.Proofs.YtnagdbnfdedejaaFmt
