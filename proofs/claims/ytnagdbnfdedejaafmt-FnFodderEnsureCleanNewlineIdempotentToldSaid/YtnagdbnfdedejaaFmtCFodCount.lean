/- FodderElementCountNewlines, FodderCountNewlines. -/
import Derived.Test.YtnagdbnfdedejaaFmtFodMem
import Derived.Test.YtnagdbnfdedejaaFmtChecked
namespace Go.Proofs.YtnagdbnfdedejaaFmt
open Go.ChangeShapes Go.WideShapes Go.ChangeAt Go.RowKit
set_option linter.unusedVariables false

set_option maxHeartbeats 800000 in
theorem elemCount_any (x : FEl) (w : World) (w0 : IsFE w x) (hk : x.kind = 0 ∨ x.kind = 1 ∨ x.kind = 2) :
    Calls Tryf.prog 39 #[x.agg] w fun e w' => e = .returned (.int .i64 (cnt1 x.el)) ∧ Below w.heap.size w w' := by
  obtain ⟨ca, clen, ccap, cs, kd, bl, idt⟩ := x
  have hst : IsStrs w ca clen ccap cs := w0.strs
  have hcm : clen ≤ 9223372036854775807 := by have := hst.lecap; have := hst.capmax; unfold maxLen at this; omega
  have Hlen := Lib.hid hst.len
  clear w0 hst
  unfold FEl.agg
  dsimp only at hk ⊢
  rcases hk with rfl | rfl | rfl
  · go_enter Tryf.func39, Tryf.ntmps39
    go_wp2
    go_ret
    exact ⟨rfl, below_alloc (Below.refl _ _) _⟩
  · go_enter Tryf.func39, Tryf.ntmps39
    go_wp2
    go_ret
    exact ⟨rfl, below_alloc (Below.refl _ _) _⟩
  · have He : Hid (cnt1 (FEl.el ⟨ca, clen, ccap, cs, 2, bl, idt⟩) = wrap64 ((clen : Int) + bl)) := by simp [Hid, cnt1, FEl.el, Hlen.out]
    rw [He.out]
    clear He
    go_enter Tryf.func39, Tryf.ntmps39
    go_wp2
    go_ret
    exact ⟨rfl, below_alloc (Below.refl _ _) _⟩

theorem cnt_take {ls : List El} {k : Nat} {x : El} (h : ls[k]? = some x) : wrap64 (cnt (ls.take k) + cnt1 x) = cnt (ls.take (k + 1)) := by
  rw [List.take_add_one, h]
  exact (cnt_snoc _ _).symm

set_option maxHeartbeats 800000 in
theorem count_any (a0 : Option Addr) (len0 cap0 : Nat) (s0 : List FEl) (w : World) (w0 : IsFEs w a0 len0 cap0 s0) (hk : known (s0.map FEl.el)) :
    Calls Tryf.prog 35 #[.slice a0 len0 cap0] w fun e w' => e = .returned (.int .i64 (cnt (s0.map FEl.el))) ∧ Below w.heap.size w w' := by
  have hm0 : len0 ≤ 9223372036854775807 := by have := w0.lecap; have := w0.capmax; unfold maxLen at this; omega
  have Hml : Hid ((s0.map FEl.el).length = len0) := by simp [Hid, w0.len]
  have Hk := Lib.hid hk
  clear hk
  go_enter Tryf.func35, Tryf.ntmps35
  go_wp2_with fail
  go_loopw [3, 8] (fun n i wr => ∃ k : Nat, k ≤ len0 ∧ i = .int .i64 k ∧ n = .int .i64 (cnt ((s0.map FEl.el).take k)) ∧ Below w.heap.size w wr) (fun _ i _ => len0 - (intOf i).toNat)
  case atStart => exact ⟨0, Nat.zero_le _, rfl, rfl, Below.refl _ _⟩
  case round =>
    obtain ⟨k, hk, rfl, rfl, hW⟩ := hrel
    by_cases hlt : k < len0
    · obtain ⟨b, off, x, rfl, hblt, hx, hfe, c0, c1, c2, c3⟩ := (w0.keep hW).at_ hlt
      have Hx : Hid ((s0.map FEl.el)[k]? = some x.el) := by simp only [Hid]; rw [List.getElem?_map, hx]; rfl
      have Hkx : Hid (x.kind = 0 ∨ x.kind = 1 ∨ x.kind = 2) := Hk.out x.el (List.mem_of_getElem? Hx.out)
      clear hx
      go_wp2_with fail
      refine (elemCount_any x _ (hfe.keep (below_alloc (Below.refl _ _) _)) Hkx.out).mono ?_
      rintro e w2 ⟨rfl, hb2⟩
      have hW2 := below_trans (below_alloc hW _) hb2
      have Hc := Lib.hid (cnt_take Hx.out)
      clear hb2 hW hfe c0 c1 c2 c3
      go_wp2
      exact ⟨⟨k + 1, by omega, by go_num, by rw [Hc.out], hW2⟩, by simp [intOf]; omega⟩
    · obtain rfl : k = len0 := by omega
      have Hc : Hid ((s0.map FEl.el).take k = s0.map FEl.el) := List.take_of_length_le (by rw [Hml.out]; exact Nat.le_refl _)
      rw [Hc.out]
      go_wp2
      go_ret
      exact ⟨rfl, hW⟩
end Go.Proofs.YtnagdbnfdedejaaFmt
