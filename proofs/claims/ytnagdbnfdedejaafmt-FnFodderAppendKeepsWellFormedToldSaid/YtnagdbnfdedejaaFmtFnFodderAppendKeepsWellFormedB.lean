/- The bound function of FnFodderAppendKeepsWellFormed: some bool; true tells that every list and string is short. (Written by wip/genb.py.) -/
import Derived.Test.YtnagdbnfdedejaaFmtCommon
import Derived.Test.YtnagdbnfdedejaaFmtFod
import Derived.Test.YtnagdbnfdedejaaFmtChecked
namespace Go.Proofs.YtnagdbnfdedejaaFmt.fnFodderAppendKeepsWellFormed
open Go.ChangeShapes Go.WideShapes Go.ChangeAt Go.RowKit
set_option linter.unusedVariables false

/-- Some bool; true tells p; nothing old has turned. -/
def BoolIfB (p : Prop) (w : World) (e : Ending) (w' : World) : Prop := ∃ r, e = .returned (.bool r) ∧ (r = true → p) ∧ Below w.heap.size w w'
theorem BoolIfB.no {p : Prop} {w w' : World} (h : Below w.heap.size w w') : BoolIfB p w (.returned (.bool false)) w' := ⟨false, rfl, (fun h => by cases h), h⟩
theorem BoolIfB.yes {p : Prop} {w w' : World} (hp : p) (h : Below w.heap.size w w') : BoolIfB p w (.returned (.bool true)) w' := ⟨true, rfl, (fun _ => hp), h⟩

set_option maxRecDepth 20000 in
set_option maxHeartbeats 1600000 in
theorem bytes_any (a0 : Option Addr) (len0 cap0 : Nat) (s0 : List FEl) (a1 : FEl) (w : World) (w0 : IsFEs w a0 len0 cap0 s0) (w1 : IsFE w a1) :
    Calls Tryf.prog 24 #[.slice a0 len0 cap0, a1.agg] w (BoolIfB (len0 ≤ 1048576 ∧ FEsUpto s0 len0 ∧ a1.clen ≤ 1048576) w) := by
  have hm0 : len0 ≤ 9223372036854775807 := by have := w0.lecap; have := w0.capmax; unfold maxLen at this; omega
  obtain ⟨ea, el, ec, es, ek, eb, ei⟩ := a1
  have he1 : IsStrs w ea el ec es := w1.strs
  have hm1 : el ≤ 9223372036854775807 := by have := he1.lecap; have := he1.capmax; unfold maxLen at this; omega
  unfold FEl.agg
  dsimp only
  have HB : Hid (Below w.heap.size w (w.alloc (.cells #[.slice ea el ec, .int .i64 ek, .int .i64 eb, .int .i64 ei] 39))) := below_alloc (Below.refl _ _) _
  have w0' := w0.keep HB.out
  have he1' := he1.keep HB.out
  clear w0 w1 he1
  go_enter Tryf.func24, Tryf.ntmps24
  go_wp2
  all_goals try (go_ret; exact BoolIfB.no HB.out)
  have hl0 : len0 ≤ 1048576 := by omega
  go_loop [5, 6] (fun n i => ∃ (k : Nat) (z : Int), k ≤ len0 ∧ i = .int .i64 k ∧ 0 ≤ z ∧ z ≤ 1048576 ∧ n = .int .i64 z ∧ Hid (FEsUpto s0 k)) (fun _ i => len0 - (intOf i).toNat)
  case atStart => exact ⟨0, _, Nat.zero_le _, rfl, by omega, by omega, rfl, FEsUpto.zero _⟩
  case round =>
    obtain ⟨k0, z0, hk0, rfl, hza0, hzb0, rfl, hup0⟩ := hrel
    by_cases hlt0 : k0 < len0
    · obtain ⟨b, off, x, rfl, hblt, hx, hfe, c0, c1, c2, c3⟩ := w0'.at_ hlt0
      obtain ⟨ca, clen, ccap, cs, kd, bl, idt⟩ := x
      have hst : IsStrs _ ca clen ccap cs := hfe.strs
      simp only at c0 c1 c2 c3
      clear c1 c2 c3 hfe
      have Hx := Lib.hid hx
      clear hx
      have hcm : clen ≤ 9223372036854775807 := by have := hst.lecap; have := hst.capmax; unfold maxLen at this; omega
      go_wp2
      all_goals try (go_ret; exact BoolIfB.no HB.out)
      have hcl : clen ≤ 1048576 := by omega
      have hup' : Hid (FEsUpto s0 (k0 + 1)) := hup0.out.step Hx.out hcl
      clear hup0 Hx
      go_loop [5, 7] (fun n i => ∃ (k : Nat) (z : Int), k ≤ clen ∧ i = .int .i64 k ∧ 0 ≤ z ∧ z ≤ 1048576 ∧ n = .int .i64 z) (fun _ i => clen - (intOf i).toNat)
      case atStart => exact ⟨0, _, Nat.zero_le _, rfl, by omega, by omega, rfl⟩
      case round =>
        obtain ⟨q, y, hq, rfl, hya, hyb, rfl⟩ := hrel
        by_cases hlq : q < clen
        · obtain ⟨b2, off2, t, rfl, hblt2, ht, htz, htc⟩ := hst.at_ hlq
          have Ht := Lib.hid ht
          clear ht
          unfold maxLen at htz
          go_wp2
          all_goals try (go_ret; exact BoolIfB.no HB.out)
          all_goals exact ⟨⟨q + 1, _, by omega, by go_num, by omega, by omega, rfl⟩, by simp [intOf]; omega⟩
        · go_wp2
          all_goals exact ⟨⟨k0 + 1, _, by omega, by go_num, by omega, by omega, rfl, hup'⟩, by simp [intOf]; omega⟩
    have hup'0 : FEsUpto s0 len0 := by have h := hup0.out; rw [show k0 = len0 by omega] at h; exact h
    go_wp2
    all_goals try (go_ret; exact BoolIfB.no HB.out)
    have hl1 : el ≤ 1048576 := by omega
    go_loop [5, 8] (fun n i => ∃ (k : Nat) (z : Int), k ≤ el ∧ i = .int .i64 k ∧ 0 ≤ z ∧ z ≤ 1048576 ∧ n = .int .i64 z) (fun _ i => el - (intOf i).toNat)
    case atStart => exact ⟨0, _, Nat.zero_le _, rfl, by omega, by omega, rfl⟩
    case round =>
      obtain ⟨k1, z1, hk1, rfl, hza1, hzb1, rfl⟩ := hrel
      by_cases hlt1 : k1 < el
      · obtain ⟨b, off, s, rfl, hblt, hs, hsz, hcell⟩ := he1'.at_ hlt1
        have Hs := Lib.hid hs
        clear hs
        unfold maxLen at hsz
        go_wp2
        all_goals try (go_ret; exact BoolIfB.no HB.out)
        all_goals exact ⟨⟨k1 + 1, _, by omega, by go_num, by omega, by omega, rfl⟩, by simp [intOf]; omega⟩
      go_wp2
      all_goals try (go_ret; exact BoolIfB.no HB.out)
      all_goals (go_ret; exact BoolIfB.yes (by (repeat' apply And.intro) <;> first | trivial | assumption | omega) HB.out)
end Go.Proofs.YtnagdbnfdedejaaFmt.fnFodderAppendKeepsWellFormed
