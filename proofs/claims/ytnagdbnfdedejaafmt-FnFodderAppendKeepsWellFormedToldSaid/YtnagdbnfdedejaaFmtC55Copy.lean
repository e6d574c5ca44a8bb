/- cloneStrings: a fresh copy of the slice; nil stays nil. -/
import Derived.Test.YtnagdbnfdedejaaFmtFodMem
import Derived.Test.YtnagdbnfdedejaaFmtChecked
namespace Go.Proofs.YtnagdbnfdedejaaFmt
open Go.ChangeShapes Go.WideShapes Go.ChangeAt Go.RowKit
set_option linter.unusedVariables false

set_option maxHeartbeats 400000 in
theorem cloneStrings_any (a0 : Option Addr) (len0 cap0 : Nat) (s0 : List ByteArray) (w : World) (w0 : IsStrs w a0 len0 cap0 s0) (hl : len0 ≤ 1048576) :
    Calls Tryf.prog 28 #[.slice a0 len0 cap0] w (CopyPost 9 w a0 len0 s0) := by
  have hmk := make_strs (P := Tryf.prog) Tryf.underlying33 (e := 9) (by kernel_rfl) len0 (by omega)
  have heq := fun W => Lib.run_eql_slice_nil (P := Tryf.prog) W 33 9 a0 len0 cap0 0 0 Tryf.underlying33
  cases ha : a0 with
  | none =>
    subst ha
    obtain rfl : len0 = 0 := w0.nil rfl
    go_enter Tryf.func28, Tryf.ntmps28
    go_wp2
    go_ret
    exact Or.inl ⟨rfl, rfl, rfl, rfl⟩
  | some x =>
    subst ha
    go_enter Tryf.func28, Tryf.ntmps28
    go_wp2
    go_loopw [4] (fun i wr => ∃ k : Nat, k ≤ len0 ∧ i = .int .i64 k ∧ Blk wr w.heap.size 9 (fillA s0 k) ∧ Below w.heap.size w wr ∧ Hid (wr.heap.size = w.heap.size + 1)) (fun i _ => len0 - (intOf i).toNat)
    case atStart => exact ⟨0, Nat.zero_le _, rfl, by rw [fillA_zero, w0.len]; exact Blk.new _ _ _, below_alloc (Below.refl _ _) _, by simp [Hid]⟩
    case round =>
      obtain ⟨k, hk, rfl, hblk, hbel, hsize⟩ := hrel
      by_cases hlt : k < len0
      · obtain ⟨b, off, s, hx, hblt, hs, hsz, hcell⟩ := (w0.keep hbel).at_ hlt
        injection hx with hx
        subst hx
        have Hs := Lib.hid hs
        clear hs
        obtain ⟨u, hu⟩ := fillA_get (ss := s0) (k := k) (by rw [w0.len]; exact hlt)
        have hd : wr.cell? ⟨w.heap.size, k, none⟩ = some (.string u) := (hblk.cell k).trans hu
        have hf := hblk.frozen k
        clear hu
        have Hb := Lib.hid hblk
        clear hblk
        go_wp2
        go_roundw
        case rel => exact ⟨k + 1, by omega, by go_num, (fillA_step Hs.out) ▸ Hb.out.set_ k _, below_set hbel (Nat.le_refl _) _, by simpa [Hid, World.setCell] using hsize⟩
        case measure => simp [intOf]; omega
      · obtain rfl : k = len0 := by omega
        have Hb : Hid (Blk wr w.heap.size 9 (strA s0)) := by rw [← fillA_end, w0.len]; exact hblk
        clear hblk
        go_wp2
        go_ret
        exact Or.inr ⟨(by simp), rfl, hbel, Hb.out, hsize.out⟩

/-- The comment's copy: as long, nil just where the given one is, in a block of its own. -/
theorem CopyPost.f {E : TypeId} {w w' : World} {a : Option Addr} {n cap : Nat} {ss : List ByteArray} {e : Ending} (h : CopyPost E w a n ss e w') (h0 : IsStrs w a n cap ss) (hn : n ≤ 1048576) :
    ∃ a' c', e = .returned (.slice a' n c') ∧ a'.isNone = a.isNone ∧ Below w.heap.size w w' ∧ IsStrs w' a' n c' ss ∧ (∀ ad, a' = some ad → ∃ cs, Blk w' ad.block E cs) := by
  rcases h with ⟨rfl, rfl, rfl, rfl⟩ | ⟨hne, rfl, hb, hblk, _⟩
  · have hnil : ss = [] := List.eq_nil_of_length_eq_zero h0.len
    subst hnil
    exact ⟨none, 0, rfl, rfl, Below.refl _ _, strs_nil _, fun ad he => by cases he⟩
  · refine ⟨_, n, rfl, ?_, hb, strs_of_blk hblk h0.len (by unfold maxLen; omega) h0.sizes, fun ad he => ?_⟩
    · cases a with
      | none => exact absurd rfl hne
      | some x => rfl
    · injection he with he
      subst he
      exact ⟨_, hblk⟩
end Go.Proofs.YtnagdbnfdedejaaFmt
