/- FodderConcat, FodderMoveFront. -/
import Derived.Test.YtnagdbnfdedejaaFmtCFodAppendAll
import Derived.IntWalk
namespace Go.Proofs.YtnagdbnfdedejaaFmt
open Go.ChangeShapes Go.WideShapes Go.ChangeAt Go.RowKit
set_option linter.unusedVariables false

/-- What holds while the second fodder is laid behind the first. -/
structure CatInv (base : Nat) (w : World) (va vb : Value) (p : Nat) (lb ls : List El) (vk : Value) (wr : World) : Prop where
  cell : Blk wr p 28 #[vk]
  fod : Fodd 9 36 base wr vk ls
  other : Fodd 9 36 base wr vb lb
  fr : Fr 36 none va.ownBlock w wr
  loc : ∀ g, vk.ownBlock = some g → va.ownBlock = some g ∨ w.heap.size ≤ g
  pge : w.heap.size ≤ p
  vbl : ∀ g, vb.ownBlock = some g → g < w.heap.size ∧ va.ownBlock ≠ some g
theorem CatInv.step {base p : Nat} {w wr w' : World} {va vb vk : Value} {lb ls ls' : List El} {e : Ending} (h : CatInv base w va vb p lb ls vk wr) (hA : AppPost 9 36 p 0 28 #[vk] vk base ls' wr e w') : ∃ v', CatInv base w va vb p lb ls' v' w' := by
  obtain ⟨_, v', hB, hF, hFr, hloc⟩ := hA
  refine ⟨v', by simpa using hB, hF, h.other.fr_row hFr (by decide) (ne_p h.cell (by decide)) (ne_p h.cell (by decide)) (fun g hg e => ?_), ?_, fun g hg => ?_, h.pge, h.vbl⟩
  · rcases h.loc g e.symm with h1 | h1
    · exact (h.vbl g hg).2 h1
    · have := (h.vbl g hg).1; omega
  · refine ⟨hFr.os.trans h.fr.os, hFr.tape.trans h.fr.tape, hFr.output.trans h.fr.output, Nat.le_trans h.fr.size hFr.size, fun k hk h1 h2 => ?_, h.fr.row⟩
    refine (hFr.block k (Nat.lt_of_lt_of_le hk h.fr.size) (fun e => ?_) (fun e => ?_)).trans (h.fr.block k hk h1 h2)
    · injection e with e; have := h.pge; omega
    · rcases h.loc k e.symm with h3 | h3
      · exact h2 h3.symm
      · omega
  · rcases hloc g hg with h1 | h1
    · exact h.loc g h1
    · exact Or.inr (Nat.le_trans h.fr.size h1)
theorem CatInv.drew {base p : Nat} {w wr : World} {va vb vk : Value} {lb ls : List El} (h : CatInv base w va vb p lb ls vk wr) : CatInv base w va vb p lb ls vk wr.drew :=
  ⟨h.cell.drew, h.fod.keep (Below.drew (Below.refl _ _)), h.other.keep (Below.drew (Below.refl _ _)), h.fr.below_after (Below.drew (Below.refl _ _)), h.loc, h.pge, h.vbl⟩

/-- What FodderConcat leaves. -/
def CatPost (base : Nat) (va vb : Value) (ls : List El) (w : World) (e : Ending) (w' : World) : Prop :=
  ∃ v', e = .returned v' ∧ Fodd 9 36 base w' v' ls ∧ Fr 36 none va.ownBlock w w' ∧ (∀ g, v'.ownBlock = some g → va.ownBlock = some g ∨ vb.ownBlock = some g ∨ w.heap.size ≤ g)

set_option maxRecDepth 20000 in
set_option maxHeartbeats 1600000 in
theorem concat_any (va vb : Value) (la lb : List El) (base : Nat) (w : World) (hA : Fodd 9 36 base w va la) (hB : Fodd 9 36 base w vb lb) (hne : ∀ g, vb.ownBlock = some g → va.ownBlock ≠ some g) (hl : la.length + lb.length ≤ 4194300) (hbase : base ≤ w.heap.size) :
    Calls Tryf.prog 13 #[va, vb] w (CatPost base va vb (cat la lb) w) := by
  obtain ⟨aa, capa, fa, hva, hIa, hmapa, _, _⟩ := hA.form
  obtain ⟨ab, capb, fb, hvb, hIb, hmapb, hformb, helb⟩ := hB.form
  have frefl : Fr 36 none va.ownBlock w w := Fr.of_below (Below.refl _ _) fun g hg => hA.blk hg
  rcases Nat.eq_zero_or_pos la.length with ha0 | ha0
  · obtain rfl : la = [] := List.eq_nil_of_length_eq_zero ha0
    rw [nil_cat]
    have Hres : Hid (CatPost base va vb lb w (.returned vb) w) := ⟨vb, rfl, hB, frefl, fun g hg => Or.inr (Or.inl hg)⟩
    clear frefl hA hB hne hIa hIb hmapa hmapb helb hformb
    subst hva hvb
    simp only [List.length_nil] at Hres ⊢
    go_enter Tryf.func13, Tryf.ntmps13
    go_wp2
    go_ret
    exact Hres.out
  rcases Nat.eq_zero_or_pos lb.length with hb0 | hb0
  · obtain rfl : lb = [] := List.eq_nil_of_length_eq_zero hb0
    rw [cat_nil]
    have Hres : Hid (CatPost base va vb la w (.returned va) w) := ⟨va, rfl, hA, frefl, fun g hg => Or.inl hg⟩
    have z1 : ((la.length : Int) == 0) = false := by simp; intro h; simp [h] at ha0
    have z2 : ¬ la.length = 0 := by omega
    have z3 : ¬ la = [] := by rintro rfl; simp at ha0
    clear frefl hA hB hne hIa hIb hmapa hmapb helb hformb
    subst hva hvb
    simp only [List.length_nil] at Hres ⊢
    go_enter Tryf.func13, Tryf.ntmps13
    go_wp2
    go_ret
    exact Hres.out
  -- both hold something
  obtain ⟨x, r, rfl⟩ : ∃ x r, lb = x :: r := by
    cases lb with
    | nil => simp at hb0
    | cons x r => exact ⟨x, r, rfl⟩
  have hane : la ≠ [] := by rintro rfl; simp at ha0
  rw [cat_cons hane]
  obtain ⟨b, off, y, hab, hblt, hy0, hfy, y0, y1, y2, y3⟩ := hIb.at_ (show 0 < (x :: r).length by simp)
  have hoff : off = 0 := by
    rcases hformb with h | ⟨g, h⟩
    · rw [h] at hab; cases hab
    · rw [h] at hab; injection hab with hab; injection hab with _ hab; omega
  subst hoff
  subst hab
  have hyx : y.el = x := by
    have h1 : (fb.map FEl.el)[0]? = some y.el := by rw [List.getElem?_map, hy0]; rfl
    rw [hmapb] at h1
    exact (Option.some.inj h1).symm
  have hy : IsEl 9 w y := helb y (List.mem_of_getElem? hy0)
  have hvbl : ∀ g, vb.ownBlock = some g → g < w.heap.size ∧ va.ownBlock ≠ some g := fun g hg => ⟨(hB.lt hg).2, hne g hg⟩
  have hb1 : Below w.heap.size w (w.alloc (.cells #[va] 28)) := below_alloc (Below.refl _ _) _
  have hInv : CatInv base w va vb w.heap.size (x :: r) la va (w.alloc (.cells #[va] 28)) := ⟨Blk.new _ _ _, hA.keep hb1, hB.keep hb1, Fr.of_below hb1 (fun g hg => hA.blk hg), fun g hg => Or.inl hg, Nat.le_refl _, hvbl⟩
  have Hy1 := Lib.hid (hy.keep hb1)
  have HInv := Lib.hid hInv
  have Hyx := Lib.hid hyx
  have Hvbl := Lib.hid hvbl
  have z1 : ((la.length : Int) == 0) = false := by simp; intro h; simp [h] at ha0
  have z2 : ¬ la.length = 0 := by omega
  have z3 : ¬ la = [] := hane
  have hrl : r.length + 1 = (x :: r).length := by simp
  obtain ⟨n, hn⟩ : ∃ n, n = r.length := ⟨_, rfl⟩
  have hlen : (x :: r).length = n + 1 := by simp [hn]
  have hln : la.length + (n + 1) ≤ 4194300 := by rw [← hlen]; exact hl
  have Hn := Lib.hid hn
  rw [Nat.zero_mul, Nat.zero_add] at y0 y1 y2 y3
  rw [hlen] at hvb hIb
  have HIb := Lib.hid hIb
  have hIa' := hIa
  clear frefl hA hB hne hIa hIb hIa' hmapa hmapb helb hformb hy0 hfy hyx hvbl hInv hrl hn hb0 hlen hl hane hy hb1
  have z4 : ((n : Int) + 1 == 0) = false := by simp; omega
  have z5 : (0 : Int) < (n : Int) + 1 := by omega
  subst hva hvb
  go_enter Tryf.func13, Tryf.ntmps13
  go_wp2_with fail
  refine (append_any w.heap.size 0 28 #[Value.slice aa la.length capa] _ la y base _ HInv.out.cell rfl (by decide) (by decide) HInv.out.fod Hy1.out (by omega) (Nat.le_trans hbase (by simp))).mono ?_
  rintro e w1 hA1
  obtain ⟨v1, hI1⟩ := HInv.out.step hA1
  obtain ⟨he, -⟩ := hA1
  subst he
  have HI1 : Hid (CatInv base w (Value.slice aa la.length capa) (Value.slice (some ⟨b, 0, none⟩) (n + 1) capb) w.heap.size (x :: r) (app la x) v1 w1) := by rw [← Hyx.out]; rw [← Hyx.out] at hI1; exact hI1
  clear hI1 HInv Hy1 y0 y1 y2 y3
  go_wp2_with fail
  go_loopw [6] (fun i wr => ∃ (k : Nat) (vk : Value), k ≤ n ∧ i = .int .i64 ((k : Int) + 1) ∧ Hid (CatInv base w (Value.slice aa la.length capa) (Value.slice (some ⟨b, 0, none⟩) (n + 1) capb) w.heap.size (x :: r) (app la x ++ r.take k) vk wr)) (fun i _ => n + 1 - (intOf i).toNat)
  case atStart => exact ⟨0, v1, Nat.zero_le _, rfl, by simpa using HI1⟩
  case round =>
    clear HI1
    obtain ⟨k, vk, hk, rfl, hI⟩ := hrel
    obtain ⟨ak, nk, ck, rfl⟩ := hI.out.fod.slice
    have cr : wr.cell? ⟨w.heap.size, 0, none⟩ = some (.slice ak nk ck) := hI.out.cell.cell 0
    by_cases hlt : k < n
    · obtain ⟨a', cap', fs', hv', hI', hmap', hform', hel'⟩ := hI.out.other.form
      have hlen : (x :: r).length = n + 1 := by simp [Hn.out]
      rw [hlen] at hI'
      injection hv' with hv1 hv2 hv3
      subst hv1
      obtain ⟨b', off', z, hab', hblt', hz0, hfz, z0, z1', z2', z3'⟩ := hI'.at_ (show k + 1 < n + 1 by omega)
      injection hab' with hab'
      injection hab' with hab1 hab2
      subst hab1 hab2
      have hzl := (hel' z (List.mem_of_getElem? hz0))
      have hzr : r[k]? = some z.el := by
        have h1 : (fs'.map FEl.el)[k + 1]? = some z.el := by rw [List.getElem?_map, hz0]; rfl
        rw [hmap'] at h1
        simpa using h1
      obtain ⟨ca, cl, cc, cs, kd, bl, idt⟩ := z
      rw [Nat.zero_add] at z0 z1' z2' z3'
      dsimp only at z0 z1' z2' z3'
      have hb2 : Below wr.heap.size wr ((wr.alloc (.cells #[.slice ca cl cc, .int .i64 kd, .int .i64 bl, .int .i64 idt] 36)).drew) := Below.drew (below_alloc (Below.refl _ _) _)
      have HF2 := Lib.hid (hI.out.fod.keep hb2)
      have Hy2 := Lib.hid (hzl.keep hb2)
      have Hp2 := Lib.hid (hI.out.cell.below hb2 hI.out.cell.lt)
      have Hn2 : Hid (∀ j u, ([.slice ca cl cc, .int .i64 kd, .int .i64 bl, .int .i64 idt] : List Value)[j]? = some u → ((wr.alloc (.cells #[.slice ca cl cc, .int .i64 kd, .int .i64 bl, .int .i64 idt] 36)).drew).cell? (Addr.add ⟨wr.heap.size, 0, none⟩ j) = some u) := news4 wr _ _ rfl _ _ _ _
      have hsz := hI.out.fr.size
      have Hz2 : Hid (base ≤ ((wr.alloc (.cells #[.slice ca cl cc, .int .i64 kd, .int .i64 bl, .int .i64 idt] 36)).drew).heap.size) := by simp [Hid]; omega
      have Hl2 : Hid ((app la x ++ r.take k).length ≤ 4194304) := by
        have h1 := len_app la x
        have h2 := List.length_take_le k r
        simp only [Hid, List.length_append]
        omega
      have Hst : Hid ((app la x ++ r.take k) ++ [(⟨ca.isNone, cs, kd, bl, idt⟩ : El)] = app la x ++ r.take (k + 1)) := by
        simp only [Hid]
        rw [List.take_add_one, hzr, List.append_assoc]
        rfl
      have Hb2 := Lib.hid hb2
      have lw : w.heap.size < wr.heap.size := hI.out.cell.lt
      have i0 : (0 : Int) ≤ (k : Int) := by omega
      have i1 : (k : Int) + 1 < (n : Int) + 1 := by omega
      have i2 : (0 : Int) ≤ (k : Int) + 1 := by omega
      have i3 : ((k : Int) + 1).toNat = k + 1 := by omega
      have i4 : IntKind.i64.wrap ((k : Int) + 1) = (k : Int) + 1 := IntWalk.i64_in _ (by omega)
      have hinfo : (Tryf.prog.info? 36).map (fun i => (i.zero, i.size, i.bytes)) = some (some (.agg #[.slice none 0 0, .int .i64 0, .int .i64 0, .int .i64 0]), 4, 48) := by kernel_rfl
      have Hinfo := Lib.hid hinfo
      clear hfz hz0 hform' hel' hmap' hI' hv2 hv3 hlen hzl hzr hb2 hsz hinfo HIb Hvbl
      go_wp2_with fail
      go_region_law ((refine step_append_fod (by rfl) _ _ 28 (by rfl) 9 36 (by decide) Tryf.underlying28 Hinfo.out base _ (app la x ++ r.take k) ca cl cc cs kd bl idt ⟨wr.heap.size, 0, none⟩ 1 (by rfl) HF2.out (by rfl) Hy2.out Hn2.out Hl2.out Hz2.out ?_; intro v1 w1 hF1 hg1 hl1; obtain ⟨a1, n1, c1, rfl⟩ := hF1.slice; have hp1 := Hp2.out.grownF hg1 (fun e => by obtain ⟨cs', hb'⟩ := HF2.out.blk e.symm; exact Hp2.out.ne_ hb' (by decide) rfl); have cp1 : w1.cell? ⟨w.heap.size, 0, none⟩ = some (.slice ak nk ck) := hp1.cell 0; have fp1 := hp1.frozen 0; have HF1 := Lib.hid hF1; have Hg1 := Lib.hid hg1; have Hl1 := Lib.hid hl1; clear hF1 hg1 hl1 hp1))
      all_goals
        have hA2 : AppPost 9 36 w.heap.size 0 28 #[Value.slice ak nk ck] (Value.slice ak nk ck) base (app la x ++ r.take (k + 1)) wr (.returned (.tuple #[])) (w1.setCell ⟨w.heap.size, 0, none⟩ (.slice a1 n1 c1)) := by
          rw [← Hst.out]
          exact AppPost.done hI.out.fod Hb2.out Hp2.out Hg1.out HF1.out Hl1.out (by decide) (by decide)
        obtain ⟨v3, hI3⟩ := hI.out.step hA2
        have HI3 := Lib.hid hI3
        clear hA2 hI3 i3 i4
        go_wp2_with fail
        exact ⟨⟨k + 1, v3, by omega, by go_num, HI3⟩, by simp [intOf]; omega⟩
    · obtain rfl : k = n := by omega
      have HI : Hid (CatInv base w (Value.slice aa la.length capa) (Value.slice (some ⟨b, 0, none⟩) (k + 1) capb) w.heap.size (x :: r) (app la x ++ r) (Value.slice ak nk ck) wr) := by
        have h := hI.out
        rw [List.take_of_length_le (by rw [Hn.out]; exact Nat.le_refl _)] at h
        exact h
      clear hI
      go_wp2
      go_ret
      exact ⟨_, rfl, HI.out.fod, HI.out.fr, fun g hg => by
        rcases HI.out.loc g hg with h | h
        · exact Or.inl h
        · exact Or.inr (Or.inr h)⟩
end Go.Proofs.YtnagdbnfdedejaaFmt
