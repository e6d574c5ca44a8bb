/- The walk of FnObjectContextDistinctAndInjective. -/
import Derived.Test.YtcidojhomoelcaaCtx
namespace Go.Proofs.Ytcidojhomoelcaa.fnObjectContextDistinctAndInjective
open Go.ChangeShapes Go.WideShapes Go.ChangeAt Go.RowKit
set_option linter.unusedVariables false

theorem bytes_any (a b : ByteArray) (w : World) (ha : a.size ≤ maxLen) (hb : b.size ≤ maxLen) :
    Calls Try.prog 7 #[.string a, .string b] w fun e w' => (∃ r, e = .returned (.bool r)) ∧ w = w' := by
  unfold maxLen at ha hb
  go_enter Try.func7, Try.ntmps7
  go_wp2
  all_goals go_ret
  all_goals exact ⟨⟨_, rfl⟩, rfl⟩

set_option maxHeartbeats 400000 in
theorem walk (a0 : ByteArray) (a1 : ByteArray) (w : World) (w0 : a0.size ≤ maxLen) (w1 : a1.size ≤ maxLen) :
    Calls Try.prog 4 #[.string a0, .string a1] w fun e w' => e = .returned (.bool true) ∧ Below w.heap.size w w' := by
  unfold maxLen at w0 w1
  by_cases c0 : 262144 < (a0.size : Int)
  · go_enter Try.func4, Try.ntmps4
    go_wp2_with fail
    refine (bytes_any _ _ _ w0 w1).mono ?_
    rintro e w' ⟨⟨r, rfl⟩, rfl⟩
    cases r <;> (go_wp2; go_ret; exact ⟨rfl, Below.refl _ _⟩)
  by_cases c1 : 262144 < (a1.size : Int)
  · go_enter Try.func4, Try.ntmps4
    go_wp2_with fail
    refine (bytes_any _ _ _ w0 w1).mono ?_
    rintro e w' ⟨⟨r, rfl⟩, rfl⟩
    cases r <;> (go_wp2; go_ret; exact ⟨rfl, Below.refl _ _⟩)
  have hof : ((octx a0).toList == (fctx a1).toList) = false := by rw [bytes_eq_iff]; simp [octx_ne_fctx]
  go_enter Try.func4, Try.ntmps4
  go_wp2_with fail
  refine (bytes_any _ _ _ w0 w1).mono ?_
  rintro e w' ⟨⟨r, rfl⟩, rfl⟩
  cases r
  · go_wp2
    go_ret
    exact ⟨rfl, Below.refl _ _⟩
  go_wp2_with fail
  refine (octx_any _ _ (by omega)).mono ?_
  rintro e w' ⟨rfl, rfl⟩
  go_wp2_with fail
  refine (fctx_any _ _ (by omega)).mono ?_
  rintro e w' ⟨rfl, rfl⟩
  go_wp2_with fail
  go_quiet (fail)
  go_wp2_with fail
  refine (octx_any _ _ (by omega)).mono ?_
  rintro e w' ⟨rfl, rfl⟩
  have b0 : Blk ((((w.alloc (.cells #[.string (octx a0)] 9)).alloc (.cells #[.string (fctx a1)] 9)).drewN nq).alloc (.cells #[.string (octx a1)] 9)) w.heap.size 9 #[.string (octx a0)] := (((Blk.new _ _ _).alloc _).drewN _).alloc _
  have b1 : Blk ((((w.alloc (.cells #[.string (octx a0)] 9)).alloc (.cells #[.string (fctx a1)] 9)).drewN nq).alloc (.cells #[.string (octx a1)] 9)) (w.heap.size + 1 + 1) 9 #[.string (octx a1)] := by
    have := Blk.new (((w.alloc (.cells #[.string (octx a0)] 9)).alloc (.cells #[.string (fctx a1)] 9)).drewN nq) 9 #[.string (octx a1)]
    simpa using this
  have hne := eql_ptr_other (P := Try.prog) _ (tp := 23) (te := 9) (n := 0) (a := ⟨w.heap.size + 1 + 1, 0, none⟩) (b := ⟨w.heap.size, 0, none⟩) Try.underlying23 (by kernel_rfl) (by simp) b1 b0
  clear b0 b1
  go_wp2
  go_quiet (fail)
  go_wp2
  go_ret
  refine ⟨?_, ?_⟩
  · rw [bytes_eq_iff, bytes_eq_iff]
    have : decide (octx a0 = octx a1) = decide (a0 = a1) := by rw [Bool.eq_iff_iff]; simp only [decide_eq_true_eq]; exact octx_inj a0 a1
    rw [this]
    simp
  · exact below_drewN ((below_drewN (((Below.refl _ _).alloc (Nat.le_refl _) _).alloc (by simp) _) _).alloc (by simp; omega) _) _
end Go.Proofs.Ytcidojhomoelcaa.fnObjectContextDistinctAndInjective
