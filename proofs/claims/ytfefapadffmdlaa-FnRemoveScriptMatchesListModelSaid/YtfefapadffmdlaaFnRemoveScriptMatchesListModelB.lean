/- The bound function of FnRemoveScriptMatchesListModel: some bool; true tells that every list and string is short. (Written by wip/genb.py.) -/
import Derived.Test.YtfefapadffmdlaaCommon
import Derived.Test.YtfefapadffmdlaaInts
import Derived.Test.YtfefapadffmdlaaChecked
namespace Go.Proofs.Ytfefapadffmdlaa.fnRemoveScriptMatchesListModel
open Go.ChangeShapes Go.WideShapes Go.ChangeAt Go.RowKit
set_option linter.unusedVariables false

set_option maxHeartbeats 1600000 in
theorem bytes_any (a0 : Option Addr) (len0 cap0 : Nat) (z0 : List Int) (a1 : Option Addr) (len1 cap1 : Nat) (s1 : List ByteArray) (a2 : ByteArray) (w : World) (w0 : IsInts .u8 w a0 len0 cap0 z0) (w1 : IsStrs w a1 len1 cap1 s1) (w2 : a2.size ≤ maxLen) :
    Calls Try.prog 9 #[.slice a0 len0 cap0, .slice a1 len1 cap1, .string a2] w (BoolIf (len0 ≤ 1048576 ∧ len1 ≤ 1048576 ∧ Short s1 len1 ∧ a2.size ≤ 1048576) w) := by
  have hm0 : len0 ≤ 9223372036854775807 := by have := w0.lecap; have := w0.capmax; unfold maxLen at this; omega
  have hm1 : len1 ≤ 9223372036854775807 := by have := w1.lecap; have := w1.capmax; unfold maxLen at this; omega
  unfold maxLen at w2
  go_enter Try.func9, Try.ntmps9
  go_wp2
  all_goals try (go_ret; exact BoolIf.no)
  have hl1 : len1 ≤ 1048576 := by omega
  go_loop [7, 8] (fun n i => ∃ (k : Nat) (z : Int), k ≤ len1 ∧ i = .int .i64 k ∧ 0 ≤ z ∧ z ≤ 1048576 ∧ n = .int .i64 z ∧ Hid (Short s1 k)) (fun _ i => len1 - (intOf i).toNat)
  case atStart => exact ⟨0, _, Nat.zero_le _, rfl, by omega, by omega, rfl, Short.zero _⟩
  case round =>
    obtain ⟨k1, z1, hk1, rfl, hza1, hzb1, rfl, hsh1⟩ := hrel
    by_cases hlt1 : k1 < len1
    · obtain ⟨b, off, s, rfl, hblt, hs, hsz, hcell⟩ := w1.at_ hlt1
      have Hs := Lib.hid hs
      clear hs
      unfold maxLen at hsz
      go_wp2
      all_goals try (go_ret; exact BoolIf.no)
      all_goals exact ⟨⟨k1 + 1, _, by omega, by go_num, by omega, by omega, rfl, hsh1.out.step Hs.out (by omega)⟩, by simp [intOf]; omega⟩
    have hsh'1 : Short s1 len1 := by have h := hsh1.out; rw [show k1 = len1 by omega] at h; exact h
    go_wp2
    all_goals try (go_ret; exact BoolIf.no)
    all_goals (go_ret; refine BoolIf.yes ?_; (repeat' apply And.intro) <;> first | trivial | assumption | omega)
end Go.Proofs.Ytfefapadffmdlaa.fnRemoveScriptMatchesListModel
