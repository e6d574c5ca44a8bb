/- LocationRangeBetween of two ranges without a file. -/
import Derived.Test.YtdmlaofjckopgaaCMakeLocationRange
import Derived.Deep.RegionHeld3
namespace Go.Proofs.Ytdmlaofjckopgaa
open Go.ChangeShapes Go.WideShapes Go.ChangeAt Go.RowKit
set_option linter.unusedVariables false

set_option maxHeartbeats 800000 in
theorem between_any (g1 g2 o1 o2 : Nat) (s : ByteArray) (b0 b1 e0 e1 : Int) (w : World) (h10 : w.cell? ⟨g1, o1, none⟩ = some (.pointer none)) (h11 : w.cell? ⟨g1, o1 + 1, none⟩ = some (.string s)) (h12 : w.cell? ⟨g1, o1 + 2, none⟩ = some (.int .i64 b0)) (h13 : w.cell? ⟨g1, o1 + 2 + 1, none⟩ = some (.int .i64 b1))
    (h20 : w.cell? ⟨g2, o2, none⟩ = some (.pointer none)) (h24 : w.cell? ⟨g2, o2 + 4, none⟩ = some (.int .i64 e0)) (h25 : w.cell? ⟨g2, o2 + 4 + 1, none⟩ = some (.int .i64 e1)) :
    Calls Try.prog 11 #[.pointer (some ⟨g1, o1, none⟩), .pointer (some ⟨g2, o2, none⟩)] w fun e w' =>
      e = .returned (.agg #[.pointer none, .string s, .int .i64 b0, .int .i64 b1, .int .i64 e0, .int .i64 e1]) ∧ Below w.heap.size w w' := by
  have l1 := lt_of_cell h10
  have l2 := lt_of_cell h20
  simp only at l1 l2
  have l1' : g1 < w.heap.size + 1 := by omega
  have l2' : g2 < w.heap.size + 1 := by omega
  have n1 : ¬ g1 = w.heap.size := by omega
  have n1' : ¬ w.heap.size = g1 := by omega
  have n2 : ¬ g2 = w.heap.size := by omega
  have n2' : ¬ w.heap.size = g2 := by omega
  have m0 := World.new_ne w _ h10
  have m1 := World.new_ne w _ h11
  have m2 := World.new_ne w _ h12
  have m3 := World.new_ne w _ h13
  have m4 := World.new_ne w _ h24
  have m5 := World.new_ne w _ h25
  go_enter Try.func11, Try.ntmps11
  go_wp2_with fail
  go_quiet (fail)
  go_wp2_with fail
  go_region_held3 (fun w' => w'.cell? ⟨g1, o1, none⟩ = some (.pointer none) ∧ w'.cell? ⟨g1, o1 + 1, none⟩ = some (.string s) ∧ w'.cell? ⟨g1, o1 + 2, none⟩ = some (.int .i64 b0) ∧ w'.cell? ⟨g1, o1 + 2 + 1, none⟩ = some (.int .i64 b1) ∧ w'.cell? ⟨g2, o2 + 4, none⟩ = some (.int .i64 e0) ∧ w'.cell? ⟨g2, o2 + 4 + 1, none⟩ = some (.int .i64 e1)) (go_keep)
    (first | (go_at_call 30; refine (mkRange_any _ _ _ _ _ _ _).mono ?_; rintro e w2 ⟨rfl, hb2⟩; obtain ⟨hc2, hf2⟩ := bcell hb2))
  go_wp2_with fail
  refine bodyPost_ret (v := .agg #[.pointer none, .string s, .int .i64 b0, .int .i64 b1, .int .i64 e0, .int .i64 e1]) (by simp [results, Try.results11, go_sem, hc2]) rfl ⟨rfl, ?_⟩
  have hB : Below w.heap.size w w2 := by
    refine below_trans ?_ hb2
    repeat (first | (with_reducible exact Below.refl _ _) | (with_reducible refine below_drewN ?_ _) | (with_reducible refine Below.drew ?_) | (with_reducible refine below_alloc ?_ _))
  exact below_set (below_set (below_set (below_set (below_set (below_set hB (Nat.le_refl _) _) (Nat.le_refl _) _) (Nat.le_refl _) _) (Nat.le_refl _) _) (Nat.le_refl _) _) (Nat.le_refl _) _
end Go.Proofs.Ytdmlaofjckopgaa
