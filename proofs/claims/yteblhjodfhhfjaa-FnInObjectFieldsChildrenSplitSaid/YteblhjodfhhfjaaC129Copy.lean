/- zzCloneBytes: a fresh copy of the slice of bytes; nil stays nil. -/
import Derived.Test.YteblhjodfhhfjaaInts
import Derived.Test.YteblhjodfhhfjaaChecked
namespace Go.Proofs.Yteblhjodfhhfjaa
open Go.ChangeShapes Go.WideShapes Go.ChangeAt Go.RowKit
set_option linter.unusedVariables false

set_option maxHeartbeats 400000 in
theorem cloneBytes_any (a0 : Option Addr) (len0 cap0 : Nat) (z0 : List Int) (w : World) (w0 : IsInts .u8 w a0 len0 cap0 z0) (hl : len0 ≤ 1048576) :
    Calls Try.prog 5 #[.slice a0 len0 cap0] w (CopyI .u8 w a0 len0 z0) := by
  have hmk := make_u8 (P := Try.prog) Try.underlying22 (e := 5) (by kernel_rfl) len0 (by omega)
  have heq := fun W => Lib.run_eql_slice_nil (P := Try.prog) W 22 5 a0 len0 cap0 0 0 Try.underlying22
  cases ha : a0 with
  | none =>
    subst ha
    obtain rfl : len0 = 0 := w0.nil rfl
    have hz : z0 = [] := List.eq_nil_of_length_eq_zero w0.len
    subst hz
    clear w0
    go_enter Try.func5, Try.ntmps5
    go_wp2
    go_ret
    exact ⟨none, 0, rfl, rfl, Below.refl _ _, ints_nil _ _⟩
  | some x =>
    subst ha
    go_enter Try.func5, Try.ntmps5
    go_wp2
    go_loopw [4] (fun i wr => ∃ k : Nat, k ≤ len0 ∧ i = .int .i64 k ∧ Blk wr w.heap.size 5 (fillI .u8 z0 k) ∧ Below w.heap.size w wr) (fun i _ => len0 - (intOf i).toNat)
    case atStart => exact ⟨0, Nat.zero_le _, rfl, by rw [fillI_zero, w0.len]; exact Blk.new _ _ _, below_alloc (Below.refl _ _) _⟩
    case round =>
      obtain ⟨k, hk, rfl, hblk, hbel⟩ := hrel
      by_cases hlt : k < len0
      · obtain ⟨b, off, s, hx, hblt, hs, hwf, hcell⟩ := (w0.keep hbel).at_ hlt
        injection hx with hx
        subst hx
        have Hs := Lib.hid hs
        clear hs
        have hd : wr.cell? ⟨w.heap.size, k, none⟩ = some (.int .u8 0) := (hblk.cell k).trans (fillI_get (by rw [w0.len]; exact hlt))
        have hf := hblk.frozen k
        have Hb := Lib.hid hblk
        clear hblk
        go_wp2
        go_roundw
        case rel => exact ⟨k + 1, by omega, by go_num, (fillI_step Hs.out) ▸ Hb.out.set_ k _, below_set hbel (Nat.le_refl _) _⟩
        case measure => simp [intOf]; omega
      · obtain rfl : k = len0 := by omega
        have Hb : Hid (Blk wr w.heap.size 5 (intA .u8 z0)) := by rw [← fillI_end, w0.len]; exact hblk
        have Hi : Hid (IsInts .u8 wr (some ⟨w.heap.size, 0, none⟩) k k z0) := ints_of_blk Hb.out w0.len (by unfold maxLen; omega) w0.wf
        clear hblk
        go_wp2
        go_ret
        exact ⟨_, _, rfl, rfl, hbel, Hi.out⟩
end Go.Proofs.Yteblhjodfhhfjaa
