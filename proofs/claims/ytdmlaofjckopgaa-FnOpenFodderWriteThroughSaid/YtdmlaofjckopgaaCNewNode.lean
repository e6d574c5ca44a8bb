/- NewNodeBase and NewNodeBaseLoc hand back the node of their arguments. -/
import Derived.Test.YtdmlaofjckopgaaCommon
import Derived.Test.YtdmlaofjckopgaaChecked
namespace Go.Proofs.Ytdmlaofjckopgaa
open Go.ChangeShapes Go.WideShapes Go.ChangeAt Go.RowKit
set_option linter.unusedVariables false

theorem newNode_any (f : Option Addr) (s : ByteArray) (b0 b1 e0 e1 : Int) (fa : Option Addr) (fn fc : Nat) (va : Option Addr) (vn vc : Nat) (w : World) :
    Calls Try.prog 29 #[.agg #[.pointer f, .string s, .int .i64 b0, .int .i64 b1, .int .i64 e0, .int .i64 e1], .slice fa fn fc, .slice va vn vc] w fun e w' =>
      e = .returned (.agg #[.slice fa fn fc, .pointer none, .slice va vn vc, .pointer f, .string s, .int .i64 b0, .int .i64 b1, .int .i64 e0, .int .i64 e1]) ∧ (w.alloc (.cells #[.pointer f, .string s, .int .i64 b0, .int .i64 b1, .int .i64 e0, .int .i64 e1] 33)).alloc (.cells #[.slice fa fn fc, .pointer none, .slice va vn vc, .pointer f, .string s, .int .i64 b0, .int .i64 b1, .int .i64 e0, .int .i64 e1] 35) = w' := by
  go_enter Try.func29, Try.ntmps29
  go_wp2
  exact bodyPost_ret (v := .agg #[.slice fa fn fc, .pointer none, .slice va vn vc, .pointer f, .string s, .int .i64 b0, .int .i64 b1, .int .i64 e0, .int .i64 e1]) (by simp [results, Try.results29, go_sem]) rfl ⟨rfl, rfl⟩
set_option maxHeartbeats 400000 in
theorem newNodeLoc_any (f : Option Addr) (s : ByteArray) (b0 b1 e0 e1 : Int) (fa : Option Addr) (fn fc : Nat) (w : World) :
    Calls Try.prog 9 #[.agg #[.pointer f, .string s, .int .i64 b0, .int .i64 b1, .int .i64 e0, .int .i64 e1], .slice fa fn fc] w fun e w' =>
      ∃ x, e = .returned (.agg #[.slice fa fn fc, .pointer none, .slice (some x) 0 0, .pointer f, .string s, .int .i64 b0, .int .i64 b1, .int .i64 e0, .int .i64 e1]) ∧ Below w.heap.size w w' := by
  go_enter Try.func9, Try.ntmps9
  go_wp2_with fail
  refine (newNode_any _ _ _ _ _ _ _ _ _ _ _ _ _).mono ?_
  rintro e w1 ⟨rfl, rfl⟩
  go_wp2
  refine bodyPost_ret (v := .agg #[.slice fa fn fc, .pointer none, .slice (some ⟨w.heap.size + 1 + 1, 0, none⟩) 0 0, .pointer f, .string s, .int .i64 b0, .int .i64 b1, .int .i64 e0, .int .i64 e1]) (by simp [results, Try.results9, go_sem]) rfl ⟨_, rfl, ?_⟩
  repeat (first | exact Below.refl _ _ | assumption | refine below_drewN ?_ _ | refine Below.drew ?_ | refine below_alloc ?_ _ | refine below_set ?_ (by simp <;> omega) _ | refine below_trans ?_ (by assumption))
end Go.Proofs.Ytdmlaofjckopgaa
