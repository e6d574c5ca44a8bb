/- LineBeginning. -/
import Derived.Test.YtheamgcjnpljfaaCommon
import Derived.Test.YtheamgcjnpljfaaChecked
import Derived.Deep.RegionHeld3
namespace Go.Proofs.Ytheamgcjnpljfaa
open Go.ChangeShapes Go.WideShapes Go.ChangeAt Go.RowKit
set_option linter.unusedVariables false

set_option maxHeartbeats 800000 in
theorem lineB_any (g o : Nat) (f : Option Addr) (s : ByteArray) (b0 b1 : Int) (w : World) (h0 : w.cell? ⟨g, o, none⟩ = some (.pointer f)) (h1 : w.cell? ⟨g, o + 1, none⟩ = some (.string s)) (h2 : w.cell? ⟨g, o + 2, none⟩ = some (.int .i64 b0)) (h3 : w.cell? ⟨g, o + 2 + 1, none⟩ = some (.int .i64 b1)) :
    Calls Try.prog 15 #[.pointer (some ⟨g, o, none⟩)] w fun e w' => e = .returned (.agg #[.pointer f, .string s, .int .i64 b0, .int .i64 1, .int .i64 b0, .int .i64 b1]) ∧ Below w.heap.size w w' := by
  have l1 := lt_of_cell h0
  simp only at l1
  have l1' : g < w.heap.size + 1 := by omega
  have n1 : ¬ g = w.heap.size := by omega
  have n1' : ¬ w.heap.size = g := by omega
  have m0 := World.new_ne w _ h0
  have m1 := World.new_ne w _ h1
  have m2 := World.new_ne w _ h2
  have m3 := World.new_ne w _ h3
  go_enter Try.func15, Try.ntmps15
  go_wp2_with fail
  go_region_held3 (fun w' => w'.cell? ⟨g, o, none⟩ = some (.pointer f) ∧ w'.cell? ⟨g, o + 1, none⟩ = some (.string s) ∧ w'.cell? ⟨g, o + 2, none⟩ = some (.int .i64 b0) ∧ w'.cell? ⟨g, o + 2 + 1, none⟩ = some (.int .i64 b1)) (go_keep) (first | fail)
  go_wp2_with fail
  refine bodyPost_ret (v := .agg #[.pointer f, .string s, .int .i64 b0, .int .i64 1, .int .i64 b0, .int .i64 b1]) (by simp [results, Try.results15, go_sem]) rfl ⟨rfl, ?_⟩
  repeat (first | (with_reducible exact Below.refl _ _) | (with_reducible refine below_set ?_ (by simp) _) | (with_reducible refine below_drewN ?_ _) | (with_reducible refine Below.drew ?_) | (with_reducible refine below_alloc ?_ _))
end Go.Proofs.Ytheamgcjnpljfaa
