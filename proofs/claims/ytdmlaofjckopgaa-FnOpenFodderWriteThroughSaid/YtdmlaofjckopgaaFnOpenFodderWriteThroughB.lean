/- The bound function of FnOpenFodderWriteThrough: some bool; true tells that every list and string is short. (Written by wip/genb.py.) -/
import Derived.Test.YtdmlaofjckopgaaCommon
import Derived.Test.YtdmlaofjckopgaaFod
import Derived.Test.YtdmlaofjckopgaaChecked
namespace Go.Proofs.Ytdmlaofjckopgaa.fnOpenFodderWriteThrough
open Go.ChangeShapes Go.WideShapes Go.ChangeAt Go.RowKit
set_option linter.unusedVariables false

set_option maxRecDepth 20000 in
set_option maxHeartbeats 1600000 in
theorem bytes_any (a0 : ByteArray) (a1 : Int) (a2 : Int) (a3 : Int) (a4 : Int) (a5 : Option Addr) (len5 cap5 : Nat) (s5 : List FEl) (a6 : Option Addr) (len6 cap6 : Nat) (s6 : List FEl) (w : World) (w0 : a0.size ≤ maxLen) (w5 : IsFEs w a5 len5 cap5 s5) (w6 : IsFEs w a6 len6 cap6 s6) :
    Calls Try.prog 14 #[.string a0, .int .i64 a1, .int .i64 a2, .int .i64 a3, .int .i64 a4, .slice a5 len5 cap5, .slice a6 len6 cap6] w (BoolIf (a0.size ≤ 1048576 ∧ len5 ≤ 1048576 ∧ FEsUpto s5 len5 ∧ len6 ≤ 1048576 ∧ FEsUpto s6 len6) w) := by
  unfold maxLen at w0
  have hm5 : len5 ≤ 9223372036854775807 := by have := w5.lecap; have := w5.capmax; unfold maxLen at this; omega
  have hm6 : len6 ≤ 9223372036854775807 := by have := w6.lecap; have := w6.capmax; unfold maxLen at this; omega
  go_enter Try.func14, Try.ntmps14
  go_wp2
  all_goals try (go_ret; exact BoolIf.no)
  have hl5 : len5 ≤ 1048576 := by omega
  go_loop [15, 16] (fun n i => ∃ (k : Nat) (z : Int), k ≤ len5 ∧ i = .int .i64 k ∧ 0 ≤ z ∧ z ≤ 1048576 ∧ n = .int .i64 z ∧ Hid (FEsUpto s5 k)) (fun _ i => len5 - (intOf i).toNat)
  case atStart => exact ⟨0, _, Nat.zero_le _, rfl, by omega, by omega, rfl, FEsUpto.zero _⟩
  case round =>
    obtain ⟨k5, z5, hk5, rfl, hza5, hzb5, rfl, hup5⟩ := hrel
    by_cases hlt5 : k5 < len5
    · obtain ⟨b, off, x, rfl, hblt, hx, hfe, c0, c1, c2, c3⟩ := w5.at_ hlt5
      obtain ⟨ca, clen, ccap, cs, kd, bl, idt⟩ := x
      have hst : IsStrs w ca clen ccap cs := hfe.strs
      simp only at c0 c1 c2 c3
      clear c1 c2 c3 hfe
      have Hx := Lib.hid hx
      clear hx
      have hcm : clen ≤ 9223372036854775807 := by have := hst.lecap; have := hst.capmax; unfold maxLen at this; omega
      go_wp2
      all_goals try (go_ret; exact BoolIf.no)
      have hcl : clen ≤ 1048576 := by omega
      have hup' : Hid (FEsUpto s5 (k5 + 1)) := hup5.out.step Hx.out hcl
      clear hup5 Hx
      go_loop [15, 17] (fun n i => ∃ (k : Nat) (z : Int), k ≤ clen ∧ i = .int .i64 k ∧ 0 ≤ z ∧ z ≤ 1048576 ∧ n = .int .i64 z) (fun _ i => clen - (intOf i).toNat)
      case atStart => exact ⟨0, _, Nat.zero_le _, rfl, by omega, by omega, rfl⟩
      case round =>
        obtain ⟨q, y, hq, rfl, hya, hyb, rfl⟩ := hrel
        by_cases hlq : q < clen
        · obtain ⟨b2, off2, t, rfl, hblt2, ht, htz, htc⟩ := hst.at_ hlq
          have Ht := Lib.hid ht
          clear ht
          unfold maxLen at htz
          go_wp2
          all_goals try (go_ret; exact BoolIf.no)
          all_goals exact ⟨⟨q + 1, _, by omega, by go_num, by omega, by omega, rfl⟩, by simp [intOf]; omega⟩
        · go_wp2
          all_goals exact ⟨⟨k5 + 1, _, by omega, by go_num, by omega, by omega, rfl, hup'⟩, by simp [intOf]; omega⟩
    have hup'5 : FEsUpto s5 len5 := by have h := hup5.out; rw [show k5 = len5 by omega] at h; exact h
    go_wp2
    all_goals try (go_ret; exact BoolIf.no)
    have hl6 : len6 ≤ 1048576 := by omega
    go_loop [15, 18] (fun n i => ∃ (k : Nat) (z : Int), k ≤ len6 ∧ i = .int .i64 k ∧ 0 ≤ z ∧ z ≤ 1048576 ∧ n = .int .i64 z ∧ Hid (FEsUpto s6 k)) (fun _ i => len6 - (intOf i).toNat)
    case atStart => exact ⟨0, _, Nat.zero_le _, rfl, by omega, by omega, rfl, FEsUpto.zero _⟩
    case round =>
      obtain ⟨k6, z6, hk6, rfl, hza6, hzb6, rfl, hup6⟩ := hrel
      by_cases hlt6 : k6 < len6
      · obtain ⟨b, off, x, rfl, hblt, hx, hfe, c0, c1, c2, c3⟩ := w6.at_ hlt6
        obtain ⟨ca, clen, ccap, cs, kd, bl, idt⟩ := x
        have hst : IsStrs w ca clen ccap cs := hfe.strs
        simp only at c0 c1 c2 c3
        clear c1 c2 c3 hfe
        have Hx := Lib.hid hx
        clear hx
        have hcm : clen ≤ 9223372036854775807 := by have := hst.lecap; have := hst.capmax; unfold maxLen at this; omega
        go_wp2
        all_goals try (go_ret; exact BoolIf.no)
        have hcl : clen ≤ 1048576 := by omega
        have hup' : Hid (FEsUpto s6 (k6 + 1)) := hup6.out.step Hx.out hcl
        clear hup6 Hx
        go_loop [15, 19] (fun n i => ∃ (k : Nat) (z : Int), k ≤ clen ∧ i = .int .i64 k ∧ 0 ≤ z ∧ z ≤ 1048576 ∧ n = .int .i64 z) (fun _ i => clen - (intOf i).toNat)
        case atStart => exact ⟨0, _, Nat.zero_le _, rfl, by omega, by omega, rfl⟩
        case round =>
          obtain ⟨q, y, hq, rfl, hya, hyb, rfl⟩ := hrel
          by_cases hlq : q < clen
          · obtain ⟨b2, off2, t, rfl, hblt2, ht, htz, htc⟩ := hst.at_ hlq
            have Ht := Lib.hid ht
            clear ht
            unfold maxLen at htz
            go_wp2
            all_goals try (go_ret; exact BoolIf.no)
            all_goals exact ⟨⟨q + 1, _, by omega, by go_num, by omega, by omega, rfl⟩, by simp [intOf]; omega⟩
          · go_wp2
            all_goals exact ⟨⟨k6 + 1, _, by omega, by go_num, by omega, by omega, rfl, hup'⟩, by simp [intOf]; omega⟩
      have hup'6 : FEsUpto s6 len6 := by have h := hup6.out; rw [show k6 = len6 by omega] at h; exact h
      go_wp2
      all_goals try (go_ret; exact BoolIf.no)
      all_goals (go_ret; refine BoolIf.yes ?_; (repeat' apply And.intro) <;> first | trivial | assumption | omega)
end Go.Proofs.Ytdmlaofjckopgaa.fnOpenFodderWriteThrough
