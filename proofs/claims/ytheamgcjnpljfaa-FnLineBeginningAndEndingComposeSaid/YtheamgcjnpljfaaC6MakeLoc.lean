/- makeLoc hands back the struct of its arguments. -/
import Derived.Test.YtheamgcjnpljfaaCommon
import Derived.Test.YtheamgcjnpljfaaChecked
namespace Go.Proofs.Ytheamgcjnpljfaa
open Go.ChangeShapes Go.WideShapes Go.ChangeAt Go.RowKit
set_option linter.unusedVariables false

theorem makeLoc_any (f : Option Addr) (s : ByteArray) (b0 b1 e0 e1 : Int) (w : World) :
    Calls Try.prog 13 #[.pointer f, .string s, .int .i64 b0, .int .i64 b1, .int .i64 e0, .int .i64 e1] w fun e w' =>
      e = .returned (.agg #[.pointer f, .string s, .int .i64 b0, .int .i64 b1, .int .i64 e0, .int .i64 e1]) ∧ Below w.heap.size w w' := by
  go_enter Try.func13, Try.ntmps13
  go_wp2
  refine bodyPost_ret (v := .agg #[.pointer f, .string s, .int .i64 b0, .int .i64 b1, .int .i64 e0, .int .i64 e1]) (by simp [results, Try.results13, go_sem]) rfl ⟨rfl, ?_⟩
  repeat (first | (with_reducible exact Below.refl _ _) | (with_reducible refine below_drewN ?_ _) | (with_reducible refine Below.drew ?_) | (with_reducible refine below_alloc ?_ _))
end Go.Proofs.Ytheamgcjnpljfaa
