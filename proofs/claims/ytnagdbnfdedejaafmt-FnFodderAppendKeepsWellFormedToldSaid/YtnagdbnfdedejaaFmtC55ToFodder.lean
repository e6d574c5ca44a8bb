/- toFodder: a new fodder that reads as the given list. -/
import Derived.Test.YtnagdbnfdedejaaFmtC55ToElem
namespace Go.Proofs.YtnagdbnfdedejaaFmt
open Go.ChangeShapes Go.WideShapes Go.ChangeAt Go.RowKit
set_option linter.unusedVariables false

set_option maxHeartbeats 800000 in
theorem toFodder_any (a0 : Option Addr) (len0 cap0 : Nat) (s0 : List FEl) (w : World) (w0 : IsFEs w a0 len0 cap0 s0) (hl : len0 ≤ 1048576) (hup : FEsUpto s0 len0) :
    Calls Tryf.prog 14 #[.slice a0 len0 cap0] w (FodPost 9 36 (s0.map FEl.el) w) := by
  have hmk := make_fod (P := Tryf.prog) Tryf.underlying28 (e := 36) (by kernel_rfl) len0 len0 (Nat.le_refl _) (by omega)
  have heq := fun W => Lib.run_eql_slice_nil (P := Tryf.prog) W 22 39 a0 len0 cap0 0 0 Tryf.underlying22
  have Hup := Lib.hid hup
  clear hup
  cases ha : a0 with
  | none =>
    subst ha
    obtain rfl : len0 = 0 := w0.nil rfl
    have hs0 : s0 = [] := List.eq_nil_of_length_eq_zero w0.len
    subst hs0
    go_enter Tryf.func14, Tryf.ntmps14
    go_wp2
    go_ret
    exact ⟨_, rfl, fodd_nil _ _ _ _, Below.refl _ _⟩
  | some x =>
    subst ha
    have Hlen := Lib.hid w0.len
    have Hml : Hid ((s0.map FEl.el).length = len0) := by simp [Hid, w0.len]
    go_enter Tryf.func14, Tryf.ntmps14
    go_wp2
    go_loopw [4] (fun i wr => ∃ k : Nat, k ≤ len0 ∧ i = .int .i64 k ∧ Fodd 9 36 w.heap.size wr (.slice (some ⟨w.heap.size, 0, none⟩) len0 len0) (fillE (s0.map FEl.el) k) ∧ Below w.heap.size w wr) (fun i _ => len0 - (intOf i).toNat)
    case atStart => exact ⟨0, Nat.zero_le _, rfl, by rw [fillE_zero, Hml.out]; exact fodd_made _ _ (by unfold maxLen; omega), below_alloc (Below.refl _ _) _⟩
    case round =>
      obtain ⟨k, hk, rfl, hF, hW⟩ := hrel
      by_cases hlt : k < len0
      · obtain ⟨b, off, y, hx, hblt, hy, hfe, c0, c1, c2, c3⟩ := (w0.keep hW).at_ hlt
        injection hx with hx
        subst hx
        have Hy := Lib.hid hy
        clear hy
        go_wp2_with fail
        refine (toElem_any y _ hfe (Hup.out k y hlt Hy.out)).mono ?_
        rintro e w1 ⟨z, rfl, hz, hze, hb1⟩
        have hF1 := hF.keep hb1
        have hW1 := below_trans hW hb1
        clear hF hW hb1 hfe c0 c1 c2 c3
        obtain ⟨u0, u1, u2, u3, d0, d1, d2, d3, f0, f1, f2, f3⟩ := hF1.at4 hlt
        have HF1 := Lib.hid hF1
        have Hze := Lib.hid hze
        clear hF1 hze
        unfold FEl.agg
        go_wp2
        have hst := fillE_step (ls := s0.map FEl.el) (k := k) (x := y.el) (by rw [List.getElem?_map, Hy.out]; rfl)
        exact ⟨⟨k + 1, by omega, by go_num, by rw [← hst, ← Hze.out]; exact HF1.out.put (by decide) hlt hz, below_set4 hW1 (Nat.le_refl _) _ _ _ _ _ _ _ _⟩, by simp [intOf]; omega⟩
      · obtain rfl : k = len0 := by omega
        have HF : Hid (Fodd 9 36 w.heap.size wr (.slice (some ⟨w.heap.size, 0, none⟩) k k) (s0.map FEl.el)) := by
          have h := hF
          rw [show fillE (s0.map FEl.el) k = s0.map FEl.el by have := fillE_end (s0.map FEl.el); rw [Hml.out] at this; exact this] at h
          exact h
        clear hF
        go_wp2
        go_ret
        exact ⟨_, rfl, HF.out, hW⟩
end Go.Proofs.YtnagdbnfdedejaaFmt
