/- The walk of FnSetFreeVariablesThenFreeVariables. -/
import Derived.Test.YtgeomhefpofjjaaFnSetFreeVariablesThenFreeVariablesB
import Derived.Test.YtgeomhefpofjjaaC31Bytes
import Derived.Test.YtgeomhefpofjjaaC31Copy
import Derived.Test.YtgeomhefpofjjaaC31Same
namespace Go.Proofs.Ytgeomhefpofjjaa.fnSetFreeVariablesThenFreeVariables
open Go.ChangeShapes Go.WideShapes Go.ChangeAt Go.RowKit
set_option linter.unusedVariables false

set_option maxHeartbeats 800000 in
theorem walk (a0 : Option Addr) (len0 cap0 : Nat) (s0 : List ByteArray) (w : World) (w0 : IsStrs w a0 len0 cap0 s0) :
    Calls Try.prog 5 #[.slice a0 len0 cap0] w fun e w' => e = .returned (.bool true) ∧ Below w.heap.size w w' := by
  have hm0 : len0 ≤ 9223372036854775807 := by have := w0.lecap; have := w0.capmax; unfold maxLen at this; omega
  have hnq := fun W => run_neq_slice_nil_any (P := Try.prog) W 31 46 none 0 0 0 0 Try.underlying31
  have hfd := fun W => Lib.run_eql_slice_nil (P := Try.prog) W 27 75 none 0 0 0 0 Try.underlying27
  go_enter Try.func5, Try.ntmps5
  go_wp2_with fail
  refine (bytes_any _ _ _ _ _ w0).mono ?_
  rintro e w' ⟨r, rfl, hr, rfl⟩
  cases r
  · go_wp2_with fail
    go_ret
    exact ⟨rfl, Below.refl _ _⟩
  have hl : len0 ≤ 1048576 := hr rfl
  clear hr
  go_wp2_with fail
  · go_ret
    exact ⟨rfl, Below.refl _ _⟩
  refine (zzBytes_any _ _ _ _ _ w0).mono ?_
  rintro e w' ⟨n, rfl, hn0, hn1, rfl⟩
  go_wp2_with (go_at_call 13; go_in)
  · go_ret
    exact ⟨rfl, Below.refl _ _⟩
  refine (toIdents_any _ _ _ s0 _ (w0.keep (below_alloc (Below.refl _ _) _)) hl).mono ?_
  rintro e w2 (⟨rfl, rfl, rfl, rfl⟩ | ⟨hne, rfl, hb2, hblk2, hs2⟩)
  · have hnil : s0 = [] := List.eq_nil_of_length_eq_zero w0.len
    subst hnil
    go_wp2_with (go_at_call 10; go_in)
    go_end0
    go_wp2_with (go_at_call 13; go_in)
    refine (same_yes _ _ _ _ _ [] _ (strs_nil _) (w0.keep (by repeat (first | exact Below.refl _ _ | refine below_alloc ?_ _ | refine below_set ?_ (by simp) _))) rfl).mono ?_
    rintro e w3 ⟨rfl, m, rfl⟩
    go_wp2_with fail
    go_quiet (fail)
    go_wp2
    go_ret
    exact ⟨rfl, by repeat (first | exact Below.refl _ _ | assumption | refine below_drewN ?_ _ | refine Below.drew ?_ | refine below_alloc ?_ _ | refine below_set ?_ (by simp <;> omega) _ | refine below_trans ?_ (by assumption))⟩
  · obtain ⟨hc2, hf2⟩ := bcell hb2
    have hz2 : w.heap.size + 1 < w2.heap.size := by have := hs2; simp at this; omega
    have hbel : Below w.heap.size w w2 := below_trans (below_alloc (Below.refl _ _) _) hb2
    have hblk3 : Blk w2 (w.heap.size + 1) 46 (strA s0) := by simpa using hblk2
    have hnn : a0.isNone = false := by cases a0 with | none => exact absurd rfl hne | some x => rfl
    have hpp := fun W => neq_ptr_same (P := Try.prog) W (tp := 45) (n := 1) ⟨w.heap.size + 1, 0, none⟩ Try.underlying45 (by kernel_rfl)
    clear hs2 hblk2 hne
    go_wp2_with (go_at_call 10; go_in)
    go_end0
    go_wp2_with (go_at_call 13; go_in)
    refine (same_yes _ _ _ _ _ s0 _ ?_ ?_ ?_).mono ?_
    · exact strs_of_blk (hblk3.far (by simp) _) w0.len (by unfold maxLen; omega) w0.sizes
    · exact w0.keep (by repeat (first | exact Below.refl _ _ | assumption | refine below_drewN ?_ _ | refine Below.drew ?_ | refine below_alloc ?_ _ | refine below_set ?_ (by simp <;> omega) _ | refine below_trans ?_ (by assumption)))
    · simp [hnn]
    rintro e w3 ⟨rfl, m, rfl⟩
    clear hblk3 hnn
    by_cases h0 : len0 = 0
    · subst h0
      go_wp2_with fail
      go_quiet (fail)
      go_wp2
      go_ret
      exact ⟨rfl, by repeat (first | exact Below.refl _ _ | assumption | refine below_drewN ?_ _ | refine Below.drew ?_ | refine below_alloc ?_ _ | refine below_set ?_ (by simp <;> omega) _ | refine below_trans ?_ (by assumption))⟩
    · have h1 : (0 : Int) < (len0 : Int) := by omega
      have h2 : 0 < len0 := by omega
      go_wp2_with fail
      go_quiet (fail)
      go_wp2
      go_ret
      exact ⟨rfl, by repeat (first | exact Below.refl _ _ | assumption | refine below_drewN ?_ _ | refine Below.drew ?_ | refine below_alloc ?_ _ | refine below_set ?_ (by simp <;> omega) _ | refine below_trans ?_ (by assumption))⟩
end Go.Proofs.Ytgeomhefpofjjaa.fnSetFreeVariablesThenFreeVariables
