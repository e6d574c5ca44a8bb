/- FodderElementCountNewlines, a lemma for each kind. -/
import Derived.Test.YtdhojpjimglijaaFmtCommon
import Derived.Test.YtdhojpjimglijaaFmtChecked
namespace Go.Proofs.YtdhojpjimglijaaFmt
open Go.ChangeShapes Go.WideShapes Go.ChangeAt Go.RowKit
set_option linter.unusedVariables false

set_option maxHeartbeats 400000 in
theorem count0 (a : Option Addr) (n c : Nat) (b i : Int) (w : World) :
    Calls Tryf.prog 7 #[.agg #[.slice a n c, .int .i64 0, .int .i64 b, .int .i64 i]] w fun e w' => e = .returned (.int .i64 1) ∧ Below w.heap.size w w' := by
  go_enter Tryf.func7, Tryf.ntmps7
  go_wp2
  go_ret
  exact ⟨rfl, below_alloc (Below.refl _ _) _⟩
set_option maxHeartbeats 400000 in
theorem count1 (a : Option Addr) (n c : Nat) (b i : Int) (w : World) :
    Calls Tryf.prog 7 #[.agg #[.slice a n c, .int .i64 1, .int .i64 b, .int .i64 i]] w fun e w' => e = .returned (.int .i64 0) ∧ Below w.heap.size w w' := by
  go_enter Tryf.func7, Tryf.ntmps7
  go_wp2
  go_ret
  exact ⟨rfl, below_alloc (Below.refl _ _) _⟩
set_option maxHeartbeats 400000 in
theorem count2 (a : Option Addr) (n c : Nat) (b i : Int) (w : World) (hn : n ≤ 1048576) (hb0 : -1073741824 ≤ b) (hb1 : b ≤ 1073741825) :
    Calls Tryf.prog 7 #[.agg #[.slice a n c, .int .i64 2, .int .i64 b, .int .i64 i]] w fun e w' => e = .returned (.int .i64 ((n : Int) + b)) ∧ Below w.heap.size w w' := by
  go_enter Tryf.func7, Tryf.ntmps7
  go_wp2
  go_ret
  exact ⟨rfl, below_alloc (Below.refl _ _) _⟩
end Go.Proofs.YtdhojpjimglijaaFmt
