/- feBytes, fesBytes: some number from 0 on. -/
import Derived.Test.YtnagdbnfdedejaaFmtFodMem
import Derived.Test.YtnagdbnfdedejaaFmtChecked
namespace Go.Proofs.YtnagdbnfdedejaaFmt
open Go.ChangeShapes Go.WideShapes Go.ChangeAt Go.RowKit
set_option linter.unusedVariables false

def SomeIntB (lo hi : Int) (w : World) (e : Ending) (w' : World) : Prop := ∃ n, e = .returned (.int .i64 n) ∧ lo ≤ n ∧ n ≤ hi ∧ Below w.heap.size w w'
theorem SomeIntB.mk {lo hi n : Int} {w w' : World} (h0 : lo ≤ n) (h1 : n ≤ hi) (h : Below w.heap.size w w') : SomeIntB lo hi w (.returned (.int .i64 n)) w' := ⟨n, rfl, h0, h1, h⟩

set_option maxHeartbeats 800000 in
theorem feBytes_any (x : FEl) (w : World) (w0 : IsFE w x) :
    Calls Tryf.prog 25 #[x.agg] w (SomeIntB 0 1048577 w) := by
  obtain ⟨ca, clen, ccap, cs, kd, bl, idt⟩ := x
  have hst : IsStrs w ca clen ccap cs := w0.strs
  clear w0
  unfold FEl.agg
  have hcm : clen ≤ 9223372036854775807 := by have := hst.lecap; have := hst.capmax; unfold maxLen at this; omega
  have hB : ∀ o, Below w.heap.size w (w.alloc o) := fun o => below_alloc (Below.refl _ _) o
  go_enter Tryf.func25, Tryf.ntmps25
  go_wp2
  all_goals try (go_ret; exact SomeIntB.mk (by decide) (by decide) (hB _))
  have hst' := hst.keep (hB (.cells #[Value.slice ca clen ccap, Value.int IntKind.i64 kd, Value.int IntKind.i64 bl, Value.int IntKind.i64 idt] 39))
  clear hst
  go_loop [3, 4] (fun n i => ∃ (k : Nat) (z : Int), k ≤ clen ∧ i = .int .i64 k ∧ 0 ≤ z ∧ z ≤ 1048576 ∧ n = .int .i64 z) (fun _ i => clen - (intOf i).toNat)
  case atStart => exact ⟨0, _, Nat.zero_le _, rfl, by omega, by omega, rfl⟩
  case round =>
    obtain ⟨k, z, hk, rfl, hz0, hz1, rfl⟩ := hrel
    by_cases hlt : k < clen
    · obtain ⟨b, off, s, rfl, hblt, hs, hsz, hcell⟩ := hst'.at_ hlt
      have Hs := Lib.hid hs
      clear hs
      unfold maxLen at hsz
      go_wp2
      all_goals try (go_ret; exact SomeIntB.mk (by decide) (by decide) (hB _))
      all_goals exact ⟨⟨k + 1, _, by omega, by go_num, by omega, by omega, rfl⟩, by simp [intOf]; omega⟩
    · go_wp2
      go_ret
      exact SomeIntB.mk (by omega) (by omega) (hB _)

set_option maxHeartbeats 800000 in
theorem fesBytes_any (a0 : Option Addr) (len0 cap0 : Nat) (s0 : List FEl) (w : World) (w0 : IsFEs w a0 len0 cap0 s0) :
    Calls Tryf.prog 10 #[.slice a0 len0 cap0] w (SomeIntB 0 2097153 w) := by
  have hm0 : len0 ≤ 9223372036854775807 := by have := w0.lecap; have := w0.capmax; unfold maxLen at this; omega
  go_enter Tryf.func10, Tryf.ntmps10
  go_wp2
  all_goals try (go_ret; exact SomeIntB.mk (by decide) (by decide) (Below.refl _ _))
  go_loopw [3, 4] (fun n i wr => ∃ (k : Nat) (z : Int), k ≤ len0 ∧ i = .int .i64 k ∧ 0 ≤ z ∧ z ≤ 1048576 ∧ n = .int .i64 z ∧ Below w.heap.size w wr) (fun _ i _ => len0 - (intOf i).toNat)
  case atStart => exact ⟨0, _, Nat.zero_le _, rfl, by omega, by omega, rfl, Below.refl _ _⟩
  case round =>
    obtain ⟨k, z, hk, rfl, hz0, hz1, rfl, hW⟩ := hrel
    by_cases hlt : k < len0
    · obtain ⟨b, off, x, rfl, hblt, hx, hfe, c0, c1, c2, c3⟩ := (w0.keep hW).at_ hlt
      clear hx
      go_wp2_with fail
      refine (feBytes_any x _ hfe).mono ?_
      rintro e w1 ⟨m, rfl, hm1, hm2, hb1⟩
      have hW1 := below_trans hW hb1
      clear hW hb1 c0 c1 c2 c3 hfe
      go_wp2
      all_goals try (go_ret; exact SomeIntB.mk (by decide) (by decide) hW1)
      all_goals exact ⟨⟨k + 1, _, by omega, by go_num, by omega, by omega, rfl, hW1⟩, by simp [intOf]; omega⟩
    · go_wp2
      go_ret
      exact SomeIntB.mk (by omega) (by omega) hW
end Go.Proofs.YtnagdbnfdedejaaFmt
