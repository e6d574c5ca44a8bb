/- zzIdents: a fresh copy of the slice, never nil. -/
import Derived.Test.YtdhojpjimglijaaCommon
import Derived.Test.YtdhojpjimglijaaChecked
namespace Go.Proofs.Ytdhojpjimglijaa
open Go.ChangeShapes Go.WideShapes Go.ChangeAt Go.RowKit
set_option linter.unusedVariables false

set_option maxHeartbeats 400000 in
theorem idents_any (a0 : Option Addr) (len0 cap0 : Nat) (s0 : List ByteArray) (w : World) (w0 : IsStrs w a0 len0 cap0 s0) (hl : len0 ≤ 1048576) :
    Calls Try.prog 11 #[.slice a0 len0 cap0] w fun e w' => e = .returned (.slice (some ⟨w.heap.size, 0, none⟩) len0 len0) ∧ Below w.heap.size w w' ∧ Blk w' w.heap.size 35 (strA s0) := by
  have hmk := make_strs (P := Try.prog) Try.underlying30 (e := 35) (by kernel_rfl) len0 (by omega)
  go_enter Try.func11, Try.ntmps11
  go_wp2
  go_loopw [4] (fun i wr => ∃ k : Nat, k ≤ len0 ∧ i = .int .i64 k ∧ Blk wr w.heap.size 35 (fillA s0 k) ∧ Below w.heap.size w wr) (fun i _ => len0 - (intOf i).toNat)
  case atStart => exact ⟨0, Nat.zero_le _, rfl, by rw [fillA_zero, w0.len]; exact Blk.new _ _ _, below_alloc (Below.refl _ _) _⟩
  case round =>
    obtain ⟨k, hk, rfl, hblk, hbel⟩ := hrel
    by_cases hlt : k < len0
    · obtain ⟨b, off, s, rfl, hblt, hs, hsz, hcell⟩ := (w0.keep hbel).at_ hlt
      have Hs := Lib.hid hs
      clear hs
      obtain ⟨u, hu⟩ := fillA_get (ss := s0) (k := k) (by rw [w0.len]; exact hlt)
      have hd : wr.cell? ⟨w.heap.size, k, none⟩ = some (.string u) := (hblk.cell k).trans hu
      have hf := hblk.frozen k
      clear hu
      have Hb := Lib.hid hblk
      clear hblk
      go_wp2
      go_roundw
      case rel => exact ⟨k + 1, by omega, by go_num, (fillA_step Hs.out) ▸ Hb.out.set_ k _, below_set hbel (Nat.le_refl _) _⟩
      case measure => simp [intOf]; omega
    · obtain rfl : k = len0 := by omega
      have Hb : Hid (Blk wr w.heap.size 35 (strA s0)) := by rw [← fillA_end, w0.len]; exact hblk
      clear hblk
      go_wp2
      go_ret
      exact ⟨rfl, hbel, Hb.out⟩
end Go.Proofs.Ytdhojpjimglijaa
