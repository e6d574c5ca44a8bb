/- mkIdents: a fresh copy of the slice; nil stays nil. -/
import Derived.Test.YtmmhdaepejdpmaaCommon
import Derived.Test.YtmmhdaepejdpmaaChecked
namespace Go.Proofs.Ytmmhdaepejdpmaa
open Go.ChangeShapes Go.WideShapes Go.ChangeAt Go.RowKit
set_option linter.unusedVariables false

set_option maxHeartbeats 400000 in
theorem mkIdents_any (a0 : Option Addr) (len0 cap0 : Nat) (s0 : List ByteArray) (w : World) (w0 : IsStrs w a0 len0 cap0 s0) (hl : len0 ≤ 1048576) :
    Calls Try.prog 7 #[.slice a0 len0 cap0] w (CopyPost 31 w a0 len0 s0) := by
  have hmk := make_strs (P := Try.prog) Try.underlying37 (e := 31) (by kernel_rfl) len0 (by omega)
  have heq := fun W => Lib.run_eql_slice_nil (P := Try.prog) W 22 9 a0 len0 cap0 0 0 Try.underlying22
  cases ha : a0 with
  | none =>
    subst ha
    obtain rfl : len0 = 0 := w0.nil rfl
    go_enter Try.func7, Try.ntmps7
    go_wp2
    go_ret
    exact Or.inl ⟨rfl, rfl, rfl, rfl⟩
  | some x =>
    subst ha
    go_enter Try.func7, Try.ntmps7
    go_wp2
    go_loopw [4] (fun i wr => ∃ k : Nat, k ≤ len0 ∧ i = .int .i64 k ∧ Blk wr w.heap.size 31 (fillA s0 k) ∧ Below w.heap.size w wr ∧ Hid (wr.heap.size = w.heap.size + 1)) (fun i _ => len0 - (intOf i).toNat)
    case atStart => exact ⟨0, Nat.zero_le _, rfl, by rw [fillA_zero, w0.len]; exact Blk.new _ _ _, below_alloc (Below.refl _ _) _, by simp [Hid]⟩
    case round =>
      obtain ⟨k, hk, rfl, hblk, hbel, hsize⟩ := hrel
      by_cases hlt : k < len0
      · obtain ⟨b, off, s, hx, hblt, hs, hsz, hcell⟩ := (w0.keep hbel).at_ hlt
        injection hx with hx
        subst hx
        have Hs := Lib.hid hs
        clear hs
        obtain ⟨u, hu⟩ := fillA_get (ss := s0) (k := k) (by rw [w0.len]; exact hlt)
        have hd : wr.cell? ⟨w.heap.size, k, none⟩ = some (.string u) := (hblk.cell k).trans hu
        have hf := hblk.frozen k
        clear hu
        have Hb := Lib.hid hblk
        clear hblk
        go_wp2
        go_roundw
        case rel => exact ⟨k + 1, by omega, by go_num, (fillA_step Hs.out) ▸ Hb.out.set_ k _, below_set hbel (Nat.le_refl _) _, by simpa [Hid, World.setCell] using hsize⟩
        case measure => simp [intOf]; omega
      · obtain rfl : k = len0 := by omega
        have Hb : Hid (Blk wr w.heap.size 31 (strA s0)) := by rw [← fillA_end, w0.len]; exact hblk
        clear hblk
        go_wp2
        go_ret
        exact Or.inr ⟨(by simp), rfl, hbel, Hb.out, hsize.out⟩
end Go.Proofs.Ytmmhdaepejdpmaa
