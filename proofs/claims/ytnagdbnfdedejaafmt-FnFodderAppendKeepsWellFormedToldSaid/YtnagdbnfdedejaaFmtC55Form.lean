/- wellOrdered, validElem, wellFormed, kindsKnown: true just where the list is so. -/
import Derived.Test.YtnagdbnfdedejaaFmtFodMem
import Derived.Test.YtnagdbnfdedejaaFmtChecked
namespace Go.Proofs.YtnagdbnfdedejaaFmt
open Go.ChangeShapes Go.WideShapes Go.ChangeAt Go.RowKit
set_option linter.unusedVariables false

/-- Some bool comes back, true just where p holds; nothing old has turned. -/
def BoolIff (p : Prop) (w : World) (e : Ending) (w' : World) : Prop := ∃ r, e = .returned (.bool r) ∧ (r = true ↔ p) ∧ Below w.heap.size w w'
theorem BoolIff.yes {p : Prop} {w w' : World} (h : p) (hb : Below w.heap.size w w') : BoolIff p w (.returned (.bool true)) w' := ⟨true, rfl, ⟨fun _ => h, fun _ => rfl⟩, hb⟩
theorem BoolIff.no {p : Prop} {w w' : World} (h : ¬ p) (hb : Below w.heap.size w w') : BoolIff p w (.returned (.bool false)) w' := ⟨false, rfl, ⟨fun h' => (by cases h'), fun h' => absurd h' h⟩, hb⟩

def WoK (l : List El) (k : Nat) : Prop := ∀ i x, i < k → l[i]? = some x → okAt l i x
theorem WoK.zero (l : List El) : WoK l 0 := fun i x h => absurd h (by omega)
theorem WoK.step {l : List El} {k : Nat} {x : El} (h : WoK l k) (hx : l[k]? = some x) (hok : okAt l k x) : WoK l (k + 1) := fun i y hi hy => by
  rcases Nat.lt_succ_iff_lt_or_eq.1 hi with h' | rfl
  · exact h i y h' hy
  · obtain rfl := Option.some.inj (hx.symm.trans hy)
    exact hok
theorem WoK.all {l : List El} (h : WoK l l.length) : Wo l := fun i x hx => h i x (List.getElem?_eq_some_iff.1 hx).1 hx
theorem closed_take {l : List El} {j : Nat} {y : El} (hy : l[j]? = some y) : closed (l.take (j + 1)) = !(y.kind == 1) := by
  rw [List.take_add_one, hy]
  exact closed_snoc _ _
theorem okAt_zero {l : List El} {x : El} (h : x.kind ≠ 2) : okAt l 0 x := ⟨fun _ => rfl, fun h' => absurd h' h⟩
theorem not_wo_zero {l : List El} {x : El} (hx : l[0]? = some x) (h : x.kind = 2) : ¬ Wo l := fun hw => by have := (hw 0 x hx).2 h; cases this
theorem okAt_succ {l : List El} {j : Nat} {x y : El} (hy : l[j]? = some y) (h0 : x.kind = 0 → y.kind = 1) (h2 : x.kind = 2 → y.kind ≠ 1) : okAt l (j + 1) x :=
  ⟨fun h => by rw [closed_take hy, h0 h]; rfl, fun h => by rw [closed_take hy]; have := h2 h; simp [this]⟩
theorem not_wo_a {l : List El} {j : Nat} {x y : El} (hy : l[j]? = some y) (hx : l[j + 1]? = some x) (h0 : x.kind = 0) (h1 : y.kind ≠ 1) : ¬ Wo l := fun hw => by
  have := (hw (j + 1) x hx).1 h0
  rw [closed_take hy] at this
  simp [h1] at this
theorem not_wo_b {l : List El} {j : Nat} {x y : El} (hy : l[j]? = some y) (hx : l[j + 1]? = some x) (h0 : x.kind = 2) (h1 : y.kind = 1) : ¬ Wo l := fun hw => by
  have := (hw (j + 1) x hx).2 h0
  rw [closed_take hy, h1] at this
  cases this
theorem el_at {fs : List FEl} {k : Nat} {x : FEl} (h : fs[k]? = some x) : (fs.map FEl.el)[k]? = some x.el := by rw [List.getElem?_map, h]; rfl

set_option maxHeartbeats 1600000 in
theorem wellOrdered_any (a0 : Option Addr) (len0 cap0 : Nat) (s0 : List FEl) (w : World) (w0 : IsFEs w a0 len0 cap0 s0) :
    Calls Tryf.prog 11 #[.slice a0 len0 cap0] w (BoolIff (Wo (s0.map FEl.el)) w) := by
  have hm0 : len0 ≤ 9223372036854775807 := by have := w0.lecap; have := w0.capmax; unfold maxLen at this; omega
  have Hml : Hid ((s0.map FEl.el).length = len0) := by simp [Hid, w0.len]
  go_enter Tryf.func11, Tryf.ntmps11
  go_wp2
  go_loop [3] (fun i => ∃ k : Nat, k ≤ len0 ∧ i = .int .i64 k ∧ Hid (WoK (s0.map FEl.el) k)) (fun i => len0 - (intOf i).toNat)
  case atStart => exact ⟨0, Nat.zero_le _, rfl, WoK.zero _⟩
  case round =>
    obtain ⟨k, hk, rfl, hwk⟩ := hrel
    by_cases hlt : k < len0
    · obtain ⟨b, off, x, rfl, hblt, hx, hfe, c0, c1, c2, c3⟩ := w0.at_ hlt
      have Hx := Lib.hid (el_at hx)
      clear hx hfe c0 c2 c3
      cases k with
      | zero =>
        by_cases h2 : x.kind = 2
        · have Hno := Lib.hid (not_wo_zero Hx.out h2)
          rw [h2] at c1
          clear h2
          go_wp2
          go_ret
          exact BoolIff.no Hno.out (Below.refl _ _)
        · have Hok := Lib.hid (hwk.out.step Hx.out (okAt_zero h2))
          have e2 : (x.kind == 2) = false := by simpa using h2
          clear h2 hwk
          by_cases h0 : x.kind = 0
          · rw [h0] at c1
            clear e2 h0
            go_wp2
            all_goals exact ⟨⟨1, by omega, by go_num, Hok⟩, by simp [intOf]; omega⟩
          · have e0 : (x.kind == 0) = false := by simpa using h0
            clear h0
            go_wp2
            all_goals exact ⟨⟨1, by omega, by go_num, Hok⟩, by simp [intOf]; omega⟩
      | succ j =>
        obtain ⟨b', off', y, hab, _, hy, _, _, d1, _, _⟩ := w0.at_ (show j < len0 by omega)
        injection hab with hab
        injection hab with hab1 hab2
        subst hab1 hab2
        have Hy := Lib.hid (el_at hy)
        clear hy
        have i0 : (0 : Int) ≤ (j : Int) := by omega
        have i1 : (0 : Int) < (j : Int) + 1 := by omega
        have i2 : ((j : Int) + 1 == 0) = false := by simp; omega
        have i3 : ¬ (j : Int) + 1 = 0 := by omega
        by_cases h0 : x.kind = 0
        · by_cases h1 : y.kind = 1
          · have Hok := Lib.hid (hwk.out.step Hx.out (okAt_succ Hy.out (fun _ => h1) (fun h => by rw [show x.el.kind = x.kind from rfl, h0] at h; cases h)))
            rw [h0] at c1
            rw [h1] at d1
            clear h0 h1 hwk
            go_wp2
            all_goals exact ⟨⟨j + 1 + 1, by omega, by go_num, Hok⟩, by simp [intOf]; omega⟩
          · have Hno := Lib.hid (not_wo_a Hy.out Hx.out h0 h1)
            have e1 : (y.kind != 1) = true := by simpa using h1
            rw [h0] at c1
            clear h0 h1 hwk
            go_wp2
            go_ret
            exact BoolIff.no Hno.out (Below.refl _ _)
        · by_cases h2 : x.kind = 2
          · by_cases h1 : y.kind = 1
            · have Hno := Lib.hid (not_wo_b Hy.out Hx.out h2 h1)
              rw [h2] at c1
              rw [h1] at d1
              clear h0 h2 h1 hwk
              go_wp2
              go_ret
              exact BoolIff.no Hno.out (Below.refl _ _)
            · have Hok := Lib.hid (hwk.out.step Hx.out (okAt_succ Hy.out (fun h => absurd h h0) (fun _ => h1)))
              have e1 : (y.kind == 1) = false := by simpa using h1
              rw [h2] at c1
              clear h0 h2 h1 hwk
              go_wp2
              all_goals exact ⟨⟨j + 1 + 1, by omega, by go_num, Hok⟩, by simp [intOf]; omega⟩
          · have Hok := Lib.hid (hwk.out.step Hx.out (okAt_succ Hy.out (fun h => absurd h h0) (fun h => absurd h h2)))
            have e0 : (x.kind == 0) = false := by simpa using h0
            have e2 : (x.kind == 2) = false := by simpa using h2
            clear h0 h2 hwk
            go_wp2
            all_goals exact ⟨⟨j + 1 + 1, by omega, by go_num, Hok⟩, by simp [intOf]; omega⟩
    · obtain rfl : k = len0 := by omega
      have Hw : Hid (Wo (s0.map FEl.el)) := by
        have h := hwk.out
        rw [← Hml.out] at h
        exact h.all
      clear hwk
      go_wp2
      go_ret
      exact BoolIff.yes Hw.out (Below.refl _ _)

theorem valid_iff (x : FEl) (w : World) (h : IsStrs w x.ca x.clen x.ccap x.cs) : valid x.el ↔ (x.kind = 0 ∧ x.clen ≤ 1) ∨ (x.kind = 1 ∧ x.clen = 1) ∨ (x.kind = 2 ∧ 1 ≤ x.clen) := by
  rw [← h.len]
  exact Iff.rfl
set_option maxHeartbeats 800000 in
theorem validElem_any (x : FEl) (w : World) (w0 : IsFE w x) :
    Calls Tryf.prog 27 #[x.agg] w (BoolIff (valid x.el) w) := by
  obtain ⟨ca, clen, ccap, cs, kd, bl, idt⟩ := x
  have hst : IsStrs w ca clen ccap cs := w0.strs
  have Hv := Lib.hid (valid_iff ⟨ca, clen, ccap, cs, kd, bl, idt⟩ w hst)
  have hcm : clen ≤ 9223372036854775807 := by have := hst.lecap; have := hst.capmax; unfold maxLen at this; omega
  have HB : Hid (Below w.heap.size w (w.alloc (.cells #[.slice ca clen ccap, .int .i64 kd, .int .i64 bl, .int .i64 idt] 39))) := below_alloc (Below.refl _ _) _
  clear hst w0
  unfold FEl.agg
  by_cases h0 : kd = 0
  · subst h0
    by_cases hl : clen ≤ 1
    · have Hy := Lib.hid (Hv.out.2 (Or.inl ⟨rfl, hl⟩))
      have hd : decide ((clen : Int) ≤ 1) = true := by simp; omega
      have hd' : decide (clen ≤ 1) = true := by simpa using hl
      go_enter Tryf.func27, Tryf.ntmps27
      go_wp2
      go_ret
      exact BoolIff.yes Hy.out HB.out
    · have Hn : Hid (¬ valid (FEl.el ⟨ca, clen, ccap, cs, 0, bl, idt⟩)) := fun h => by
        rcases Hv.out.1 h with h | h | h
        · exact hl h.2
        · cases h.1
        · cases h.1
      have hd : decide ((clen : Int) ≤ 1) = false := by simp; omega
      have hd' : decide (clen ≤ 1) = false := by simpa using hl
      go_enter Tryf.func27, Tryf.ntmps27
      go_wp2
      go_ret
      exact BoolIff.no Hn.out HB.out
  by_cases h1 : kd = 1
  · subst h1
    by_cases hl : clen = 1
    · subst hl
      have Hy := Lib.hid (Hv.out.2 (Or.inr (Or.inl ⟨rfl, rfl⟩)))
      clear h0
      go_enter Tryf.func27, Tryf.ntmps27
      go_wp2
      go_ret
      exact BoolIff.yes Hy.out HB.out
    · have Hn : Hid (¬ valid (FEl.el ⟨ca, clen, ccap, cs, 1, bl, idt⟩)) := fun h => by
        rcases Hv.out.1 h with h | h | h
        · cases h.1
        · exact hl h.2
        · cases h.1
      have hd : ((clen : Int) == 1) = false := by simp; omega
      have hd' : (clen == 1) = false := by simpa using hl
      clear h0
      go_enter Tryf.func27, Tryf.ntmps27
      go_wp2
      go_ret
      exact BoolIff.no Hn.out HB.out
  by_cases h2 : kd = 2
  · subst h2
    by_cases hl : 1 ≤ clen
    · have Hy := Lib.hid (Hv.out.2 (Or.inr (Or.inr ⟨rfl, hl⟩)))
      have hd : decide (1 ≤ (clen : Int)) = true := by simp; omega
      have hd' : decide (1 ≤ clen) = true := by simpa using hl
      clear h0 h1
      go_enter Tryf.func27, Tryf.ntmps27
      go_wp2
      go_ret
      exact BoolIff.yes Hy.out HB.out
    · have Hn : Hid (¬ valid (FEl.el ⟨ca, clen, ccap, cs, 2, bl, idt⟩)) := fun h => by
        rcases Hv.out.1 h with h | h | h
        · cases h.1
        · cases h.1
        · exact hl h.2
      obtain rfl : clen = 0 := by omega
      clear h0 h1 hl
      go_enter Tryf.func27, Tryf.ntmps27
      go_wp2
      go_ret
      exact BoolIff.no Hn.out HB.out
  · have Hn : Hid (¬ valid (FEl.el ⟨ca, clen, ccap, cs, kd, bl, idt⟩)) := fun h => by
      rcases Hv.out.1 h with h | h | h
      · exact h0 h.1
      · exact h1 h.1
      · exact h2 h.1
    have e0 : (kd == 0) = false := by simpa using h0
    have e1 : (kd == 1) = false := by simpa using h1
    have e2 : (kd == 2) = false := by simpa using h2
    clear h0 h1 h2
    go_enter Tryf.func27, Tryf.ntmps27
    go_wp2
    go_ret
    exact BoolIff.no Hn.out HB.out

set_option maxHeartbeats 800000 in
theorem wellFormed_any (a0 : Option Addr) (len0 cap0 : Nat) (s0 : List FEl) (w : World) (w0 : IsFEs w a0 len0 cap0 s0) :
    Calls Tryf.prog 26 #[.slice a0 len0 cap0] w (BoolIff (Wf (s0.map FEl.el)) w) := by
  have hm0 : len0 ≤ 9223372036854775807 := by have := w0.lecap; have := w0.capmax; unfold maxLen at this; omega
  have Hml : Hid (s0.length = len0) := w0.len
  go_enter Tryf.func26, Tryf.ntmps26
  go_wp2_with fail
  refine (wellOrdered_any _ _ _ s0 _ w0).mono ?_
  rintro e w1 ⟨r, rfl, hr, hb1⟩
  have Hr := Lib.hid hr
  clear hr
  cases r
  · go_wp2_with fail
    go_ret
    exact BoolIff.no (fun h => by have := Hr.out.2 h.1; cases this) hb1
  have Hwo := Lib.hid (Hr.out.1 rfl)
  clear Hr
  go_wp2_with fail
  go_loopw [3] (fun i wr => ∃ k : Nat, k ≤ len0 ∧ i = .int .i64 k ∧ Hid (∀ i x, i < k → s0[i]? = some x → valid x.el) ∧ Below w.heap.size w wr) (fun i _ => len0 - (intOf i).toNat)
  case atStart => exact ⟨0, Nat.zero_le _, rfl, (fun i x h => absurd h (by omega)), hb1⟩
  case round =>
    clear hb1
    obtain ⟨k, hk, rfl, hvk, hW⟩ := hrel
    by_cases hlt : k < len0
    · obtain ⟨b, off, x, rfl, hblt, hx, hfe, c0, c1, c2, c3⟩ := (w0.keep hW).at_ hlt
      have Hx := Lib.hid hx
      clear hx
      go_wp2_with fail
      refine (validElem_any x _ hfe).mono ?_
      rintro e w2 ⟨r, rfl, hr, hb2⟩
      have Hr := Lib.hid hr
      have hW2 := below_trans hW hb2
      clear hr hb2 hW hfe c0 c1 c2 c3
      cases r
      · have Hno : Hid (¬ Wf (s0.map FEl.el)) := fun h => by
          have := Hr.out.2 (h.2 x.el (List.mem_of_getElem? (el_at Hx.out)))
          cases this
        go_wp2
        go_ret
        exact BoolIff.no Hno.out hW2
      · have Hok : Hid (∀ i x, i < k + 1 → s0[i]? = some x → valid x.el) := fun i y hi hy => by
          rcases Nat.lt_succ_iff_lt_or_eq.1 hi with h' | rfl
          · exact hvk.out i y h' hy
          · obtain rfl := Option.some.inj (Hx.out.symm.trans hy)
            exact Hr.out.1 rfl
        clear Hr hvk
        go_wp2
        exact ⟨⟨k + 1, by omega, by go_num, Hok, hW2⟩, by simp [intOf]; omega⟩
    · obtain rfl : k = len0 := by omega
      have Hw : Hid (Wf (s0.map FEl.el)) := ⟨Hwo.out, fun x hx => by
        obtain ⟨y, hy, rfl⟩ := List.mem_map.1 hx
        obtain ⟨i, hi, he⟩ := List.getElem_of_mem hy
        exact hvk.out i y (by have := Hml.out; omega) (by rw [List.getElem?_eq_getElem hi, he])⟩
      clear hvk
      go_wp2
      go_ret
      exact BoolIff.yes Hw.out hW

set_option maxHeartbeats 800000 in
theorem kindsKnown_any (a0 : Option Addr) (len0 cap0 : Nat) (s0 : List FEl) (w : World) (w0 : IsFEs w a0 len0 cap0 s0) :
    Calls Tryf.prog 23 #[.slice a0 len0 cap0] w (BoolIff (known (s0.map FEl.el)) w) := by
  have hm0 : len0 ≤ 9223372036854775807 := by have := w0.lecap; have := w0.capmax; unfold maxLen at this; omega
  have Hml : Hid (s0.length = len0) := w0.len
  go_enter Tryf.func23, Tryf.ntmps23
  go_wp2
  go_loop [3] (fun i => ∃ k : Nat, k ≤ len0 ∧ i = .int .i64 k ∧ Hid (∀ i x, i < k → s0[i]? = some x → (0 ≤ x.kind ∧ x.kind ≤ 2))) (fun i => len0 - (intOf i).toNat)
  case atStart => exact ⟨0, Nat.zero_le _, rfl, fun i x h => absurd h (by omega)⟩
  case round =>
    obtain ⟨k, hk, rfl, hvk⟩ := hrel
    by_cases hlt : k < len0
    · obtain ⟨b, off, x, rfl, hblt, hx, hfe, c0, c1, c2, c3⟩ := w0.at_ hlt
      have Hx := Lib.hid hx
      clear hx hfe c0 c2 c3
      by_cases hbad : x.kind < 0 ∨ 2 < x.kind
      · have Hno : Hid (¬ known (s0.map FEl.el)) := fun h => by
          have := h x.el (List.mem_of_getElem? (el_at Hx.out))
          have e : x.el.kind = x.kind := rfl
          rw [e] at this
          omega
        rcases hbad with hbad | hbad
        · go_wp2
          all_goals try (go_ret; exact BoolIff.no Hno.out (Below.refl _ _))
        · have h0 : ¬ x.kind < 0 := by omega
          go_wp2
          all_goals try (go_ret; exact BoolIff.no Hno.out (Below.refl _ _))
      · have h0 : ¬ x.kind < 0 := by omega
        have h2 : ¬ 2 < x.kind := by omega
        have Hok : Hid (∀ i x, i < k + 1 → s0[i]? = some x → (0 ≤ x.kind ∧ x.kind ≤ 2)) := fun i y hi hy => by
          rcases Nat.lt_succ_iff_lt_or_eq.1 hi with h' | rfl
          · exact hvk.out i y h' hy
          · obtain rfl := Option.some.inj (Hx.out.symm.trans hy)
            omega
        clear hvk hbad
        go_wp2
        all_goals exact ⟨⟨k + 1, by omega, by go_num, Hok⟩, by simp [intOf]; omega⟩
    · obtain rfl : k = len0 := by omega
      have Hw : Hid (known (s0.map FEl.el)) := fun x hx => by
        obtain ⟨y, hy, rfl⟩ := List.mem_map.1 hx
        obtain ⟨i, hi, he⟩ := List.getElem_of_mem hy
        have h1 := hvk.out i y (by have := Hml.out; omega) (by rw [List.getElem?_eq_getElem hi, he])
        have e : y.el.kind = y.kind := rfl
        rw [e]
        omega
      clear hvk
      go_wp2
      go_ret
      exact BoolIff.yes Hw.out (Below.refl _ _)
end Go.Proofs.YtnagdbnfdedejaaFmt
