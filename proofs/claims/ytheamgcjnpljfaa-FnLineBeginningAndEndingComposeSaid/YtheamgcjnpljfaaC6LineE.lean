/- LineEnding, where the range's last line is in the file. -/
import Derived.Test.YtheamgcjnpljfaaCommon
import Derived.Test.YtheamgcjnpljfaaChecked
import Derived.Deep.RegionHeld3
namespace Go.Proofs.Ytheamgcjnpljfaa
open Go.ChangeShapes Go.WideShapes Go.ChangeAt Go.RowKit
set_option linter.unusedVariables false

set_option maxHeartbeats 1600000 in
theorem lineE_any (g o q : Nat) (s : ByteArray) (e1 : Int) (n : Nat) (b off ln lc : Nat) (t : ByteArray) (w : World) (h0 : w.cell? ⟨g, o, none⟩ = some (.pointer (some ⟨q, 0, none⟩))) (h1 : w.cell? ⟨g, o + 1, none⟩ = some (.string s)) (h2 : w.cell? ⟨g, o + 4, none⟩ = some (.int .i64 ((n : Int) + 1))) (h3 : w.cell? ⟨g, o + 4 + 1, none⟩ = some (.int .i64 e1))
    (hq : w.cell? ⟨q, 1, none⟩ = some (.slice (some ⟨b, off, none⟩) ln lc)) (hn : n < ln) (hln : ln ≤ 1048576) (ht : w.cell? ⟨b, off + n, none⟩ = some (.string t)) (hsz : t.size ≤ maxLen) :
    Calls Try.prog 17 #[.pointer (some ⟨g, o, none⟩)] w fun e w' => e = .returned (.agg #[.pointer (some ⟨q, 0, none⟩), .string s, .int .i64 ((n : Int) + 1), .int .i64 e1, .int .i64 ((n : Int) + 1), .int .i64 (t.size : Int)]) ∧ Below w.heap.size w w' := by
  have l1 := lt_of_cell h0
  have l2 := lt_of_cell hq
  have l3 := lt_of_cell ht
  simp only at l1 l2 l3
  have l1' : g < w.heap.size + 1 := by omega
  have l2' : q < w.heap.size + 1 := by omega
  have l3' : b < w.heap.size + 1 := by omega
  have n1 : ¬ g = w.heap.size := by omega
  have n1' : ¬ w.heap.size = g := by omega
  have n2 : ¬ q = w.heap.size := by omega
  have n2' : ¬ w.heap.size = q := by omega
  have n3 : ¬ b = w.heap.size := by omega
  have n3' : ¬ w.heap.size = b := by omega
  have m0 := World.new_ne w _ h0
  have m1 := World.new_ne w _ h1
  have m2 := World.new_ne w _ h2
  have m3 := World.new_ne w _ h3
  have m4 := World.new_ne w _ hq
  have m5 := World.new_ne w _ ht
  unfold maxLen at hsz
  have hn0 : (0 : Int) ≤ (n : Int) := by omega
  have hn1 : (n : Int) < (ln : Int) := by omega
  have hw1 : IntKind.i64.wrap ((n : Int) + 1 - 1) = (n : Int) := by rw [show (n : Int) + 1 - 1 = (n : Int) by omega]; exact IntWalk.i64_in _ ⟨by omega, by omega⟩
  have hw2 : IntKind.i64.wrap (n : Int) = (n : Int) := IntWalk.i64_in _ ⟨by omega, by omega⟩
  have hid : ((n : Int) + 1 - 1) = (n : Int) := by omega
  go_enter Try.func17, Try.ntmps17
  go_wp2_with fail
  go_region_held3 (fun w' => w'.cell? ⟨g, o, none⟩ = some (.pointer (some ⟨q, 0, none⟩)) ∧ w'.cell? ⟨g, o + 1, none⟩ = some (.string s) ∧ w'.cell? ⟨g, o + 4, none⟩ = some (.int .i64 ((n : Int) + 1)) ∧ w'.cell? ⟨g, o + 4 + 1, none⟩ = some (.int .i64 e1) ∧ w'.cell? ⟨q, 1, none⟩ = some (.slice (some ⟨b, off, none⟩) ln lc) ∧ w'.cell? ⟨b, off + n, none⟩ = some (.string t)) (go_keep) (first | fail)
  go_wp2_with fail
  refine bodyPost_ret (v := .agg #[.pointer (some ⟨q, 0, none⟩), .string s, .int .i64 ((n : Int) + 1), .int .i64 e1, .int .i64 ((n : Int) + 1), .int .i64 (t.size : Int)]) (by simp [results, Try.results17, go_sem]) rfl ⟨rfl, ?_⟩
  repeat (first | (with_reducible exact Below.refl _ _) | (with_reducible refine below_set ?_ (by simp) _) | (with_reducible refine below_drewN ?_ _) | (with_reducible refine Below.drew ?_) | (with_reducible refine below_alloc ?_ _))
end Go.Proofs.Ytheamgcjnpljfaa
