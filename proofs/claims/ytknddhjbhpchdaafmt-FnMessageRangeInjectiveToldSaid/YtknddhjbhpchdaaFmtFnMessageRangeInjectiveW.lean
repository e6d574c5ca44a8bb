/- The walk of FnMessageRangeInjective. -/
import Derived.Test.YtknddhjbhpchdaaFmtCMakeLocationRangeMessage
import Derived.Test.YtknddhjbhpchdaaFmtCRangeString
import Derived.Test.YtknddhjbhpchdaaFmtChecked
import Derived.Deep.QuietTactic
import Derived.BigQuiet
import Derived.Outline
namespace Go.Proofs.YtknddhjbhpchdaaFmt.fnMessageRangeInjective
open Go.ChangeShapes Go.WideShapes Go.ChangeAt Go.RowKit
set_option linter.unusedVariables false

theorem bytes_any (a b : ByteArray) (w : World) (ha : a.size ≤ maxLen) (hb : b.size ≤ maxLen) :
    Calls Tryf.prog 5 #[.string a, .string b] w fun e w' => (∃ r, e = .returned (.bool r)) ∧ w = w' := by
  unfold maxLen at ha hb
  go_enter Tryf.func5, Tryf.ntmps5
  go_wp2
  all_goals go_ret
  all_goals exact ⟨⟨_, rfl⟩, rfl⟩

set_option maxHeartbeats 400000 in
theorem walk (a0 : ByteArray) (a1 : ByteArray) (w : World) (w0 : a0.size ≤ maxLen) (w1 : a1.size ≤ maxLen) :
    Calls Tryf.prog 3 #[.string a0, .string a1] w fun e w' => e = .returned (.bool true) ∧ Below w.heap.size w w' := by
  unfold maxLen at w0 w1
  have hpn := fun W => equalIn_ptr_nil (P := Tryf.prog) W 9998 Tryf.underlying23
  cases hz : (a0.toList == a1.toList)
  all_goals
    go_enter Tryf.func3, Tryf.ntmps3
    go_wp2_with fail
    refine (bytes_any _ _ _ w0 w1).mono ?_
    rintro e w' ⟨⟨r, rfl⟩, rfl⟩
    cases r
    · go_wp2
      go_ret
      exact ⟨rfl, Below.refl _ _⟩
    go_wp2_with fail
    · go_ret
      exact ⟨rfl, Below.refl _ _⟩
    refine (mkMsg_any _ _).mono ?_
    rintro e w1 ⟨rfl, hb1⟩
    obtain ⟨hc1, hf1⟩ := bcell hb1
    have hz1 := hb1.size
    go_wp2_with fail
    refine (mkMsg_any _ _).mono ?_
    rintro e w2 ⟨rfl, hb2⟩
    obtain ⟨hc2, hf2⟩ := bcell hb2
    have hz2 : w1.heap.size < w2.heap.size := by have := hb2.size; simp at this; omega
    go_wp2_with fail
    refine (rstr_unset _ a0 _ (by go_simp) (by go_simp)).mono ?_
    rintro e w3 ⟨rfl, rfl⟩
    go_wp2_with fail
    refine (rstr_unset _ a1 _ (by go_simp) (by go_simp)).mono ?_
    rintro e w3 ⟨rfl, rfl⟩
    go_wp2
    go_ret
    exact ⟨rfl, by repeat (first | exact Below.refl _ _ | assumption | refine below_drewN ?_ _ | refine Below.drew ?_ | refine below_alloc ?_ _ | refine below_set ?_ (by simp <;> omega) _ | refine below_trans ?_ (by assumption))⟩
end Go.Proofs.YtknddhjbhpchdaaFmt.fnMessageRangeInjective
