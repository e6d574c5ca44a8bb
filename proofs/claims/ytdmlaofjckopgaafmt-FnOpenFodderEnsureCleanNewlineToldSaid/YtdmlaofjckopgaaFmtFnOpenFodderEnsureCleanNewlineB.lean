/- The bound function of FnOpenFodderEnsureCleanNewline: some bool; true tells that every list and string is short. (Written by wip/genb.py.) -/
import Derived.Test.YtdmlaofjckopgaaFmtCommon
import Derived.Test.YtdmlaofjckopgaaFmtFod
import Derived.Test.YtdmlaofjckopgaaFmtChecked
namespace Go.Proofs.YtdmlaofjckopgaaFmt.fnOpenFodderEnsureCleanNewline
open Go.ChangeShapes Go.WideShapes Go.ChangeAt Go.RowKit
set_option linter.unusedVariables false

set_option maxRecDepth 20000 in
set_option maxHeartbeats 1600000 in
theorem bytes_any (a0 : Option Addr) (len0 cap0 : Nat) (s0 : List FEl) (w : World) (w0 : IsFEs w a0 len0 cap0 s0) :
    Calls Tryf.prog 4 #[.slice a0 len0 cap0] w (BoolIf (len0 ≤ 1048576 ∧ FEsUpto s0 len0) w) := by
  have hm0 : len0 ≤ 9223372036854775807 := by have := w0.lecap; have := w0.capmax; unfold maxLen at this; omega
  go_enter Tryf.func4, Tryf.ntmps4
  go_wp2
  all_goals try (go_ret; exact BoolIf.no)
  have hl0 : len0 ≤ 1048576 := by omega
  go_loop [3, 4] (fun n i => ∃ (k : Nat) (z : Int), k ≤ len0 ∧ i = .int .i64 k ∧ 0 ≤ z ∧ z ≤ 1048576 ∧ n = .int .i64 z ∧ Hid (FEsUpto s0 k)) (fun _ i => len0 - (intOf i).toNat)
  case atStart => exact ⟨0, _, Nat.zero_le _, rfl, by omega, by omega, rfl, FEsUpto.zero _⟩
  case round =>
    obtain ⟨k0, z0, hk0, rfl, hza0, hzb0, rfl, hup0⟩ := hrel
    by_cases hlt0 : k0 < len0
    · obtain ⟨b, off, x, rfl, hblt, hx, hfe, c0, c1, c2, c3⟩ := w0.at_ hlt0
      obtain ⟨ca, clen, ccap, cs, kd, bl, idt⟩ := x
      have hst : IsStrs w ca clen ccap cs := hfe.strs
      simp only at c0 c1 c2 c3
      clear c1 c2 c3 hfe
      have Hx := Lib.hid hx
      clear hx
      have hcm : clen ≤ 9223372036854775807 := by have := hst.lecap; have := hst.capmax; unfold maxLen at this; omega
      go_wp2
      all_goals try (go_ret; exact BoolIf.no)
      have hcl : clen ≤ 1048576 := by omega
      have hup' : Hid (FEsUpto s0 (k0 + 1)) := hup0.out.step Hx.out hcl
      clear hup0 Hx
      go_loop [3, 5] (fun n i => ∃ (k : Nat) (z : Int), k ≤ clen ∧ i = .int .i64 k ∧ 0 ≤ z ∧ z ≤ 1048576 ∧ n = .int .i64 z) (fun _ i => clen - (intOf i).toNat)
      case atStart => exact ⟨0, _, Nat.zero_le _, rfl, by omega, by omega, rfl⟩
      case round =>
        obtain ⟨q, y, hq, rfl, hya, hyb, rfl⟩ := hrel
        by_cases hlq : q < clen
        · obtain ⟨b2, off2, t, rfl, hblt2, ht, htz, htc⟩ := hst.at_ hlq
          have Ht := Lib.hid ht
          clear ht
          unfold maxLen at htz
          go_wp2
          all_goals try (go_ret; exact BoolIf.no)
          all_goals exact ⟨⟨q + 1, _, by omega, by go_num, by omega, by omega, rfl⟩, by simp [intOf]; omega⟩
        · go_wp2
          all_goals exact ⟨⟨k0 + 1, _, by omega, by go_num, by omega, by omega, rfl, hup'⟩, by simp [intOf]; omega⟩
    have hup'0 : FEsUpto s0 len0 := by have h := hup0.out; rw [show k0 = len0 by omega] at h; exact h
    go_wp2
    all_goals try (go_ret; exact BoolIf.no)
    all_goals (go_ret; refine BoolIf.yes ?_; (repeat' apply And.intro) <;> first | trivial | assumption | omega)
end Go.Proofs.YtdmlaofjckopgaaFmt.fnOpenFodderEnsureCleanNewline
