/- The walk of FnMessageRangeIsEmptyRange. -/
import Derived.Test.YtknddhjbhpchdaaFmtCMakeLocationRangeMessage
import Derived.Test.YtknddhjbhpchdaaFmtCMakeLocationRange
import Derived.Test.YtknddhjbhpchdaaFmtCRangeString
import Derived.Deep.RegionHeld3
namespace Go.Proofs.YtknddhjbhpchdaaFmt.fnMessageRangeIsEmptyRange
open Go.ChangeShapes Go.WideShapes Go.ChangeAt Go.RowKit
set_option linter.unusedVariables false

theorem bytes_any (a : ByteArray) (w : World) (ha : a.size ≤ maxLen) :
    Calls Tryf.prog 8 #[.string a] w fun e w' => (∃ r, e = .returned (.bool r)) ∧ w = w' := by
  unfold maxLen at ha
  go_enter Tryf.func8, Tryf.ntmps8
  go_wp2
  all_goals go_ret
  all_goals exact ⟨⟨_, rfl⟩, rfl⟩

set_option maxHeartbeats 400000 in
theorem walk (a0 : ByteArray) (w : World) (w0 : a0.size ≤ maxLen) :
    Calls Tryf.prog 4 #[.string a0] w fun e w' => e = .returned (.bool true) ∧ Below w.heap.size w w' := by
  unfold maxLen at w0
  have hpn := fun W => equalIn_ptr_nil (P := Tryf.prog) W 9998 Tryf.underlying23
  go_enter Tryf.func4, Tryf.ntmps4
  go_wp2_with fail
  refine (bytes_any _ _ w0).mono ?_
  rintro e w' ⟨⟨r, rfl⟩, rfl⟩
  cases r
  · go_wp2
    go_ret
    exact ⟨rfl, Below.refl _ _⟩
  go_wp2_with fail
  · go_ret
    exact ⟨rfl, Below.refl _ _⟩
  refine (mkMsg_any _ _).mono ?_
  rintro e w1 ⟨rfl, hb1⟩
  obtain ⟨hc1, hf1⟩ := bcell hb1
  have hz1 := hb1.size
  go_wp2_with fail
  have g0 : (w1.alloc (.cells #[.pointer none, .string a0, .int .i64 0, .int .i64 0, .int .i64 0, .int .i64 0] 27)).cell? ⟨w1.heap.size, 0, none⟩ = some (.pointer none) := by go_simp
  go_region_held3 (fun w' => w'.cell? ⟨w1.heap.size, 0, none⟩ = some (.pointer none) ∧ w'.cell? ⟨w1.heap.size, 1, none⟩ = some (.string a0) ∧ w'.cell? ⟨w1.heap.size, 2, none⟩ = some (.int .i64 0) ∧ w'.cell? ⟨w1.heap.size, 3, none⟩ = some (.int .i64 0) ∧ w'.cell? ⟨w1.heap.size, 4, none⟩ = some (.int .i64 0) ∧ w'.cell? ⟨w1.heap.size, 5, none⟩ = some (.int .i64 0)) (go_keep)
    (first | (go_at_call 9; refine (mkRange_any _ _ _ _ _ _ _).mono ?_; rintro e w2 ⟨rfl, hb2⟩; obtain ⟨hc2, hf2⟩ := bcell hb2))
  go_wp2_with (first | (go_at_call 7; refine (rstr_unset _ a0 _ (by go_simp) (by go_simp)).mono ?_; rintro e w3 ⟨rfl, rfl⟩) | go_in)
  go_ret
  exact ⟨rfl, by repeat (first | exact Below.refl _ _ | assumption | refine below_drewN ?_ _ | refine Below.drew ?_ | refine below_alloc ?_ _ | refine below_set ?_ (by simp <;> omega) _ | refine below_trans ?_ (by assumption))⟩
end Go.Proofs.YtknddhjbhpchdaaFmt.fnMessageRangeIsEmptyRange
