/- The walk of FnLocRangeBetweenNodes. -/
import Derived.Test.YtdmlaofjckopgaaFnLocRangeBetweenNodesB
import Derived.Test.YtdmlaofjckopgaaCMkloc25
import Derived.Test.YtdmlaofjckopgaaCNewNode
import Derived.Test.YtdmlaofjckopgaaCBetween
import Derived.Test.YtdmlaofjckopgaaCNodeLoc
import Derived.Deep.RegionHeld3
namespace Go.Proofs.Ytdmlaofjckopgaa.fnLocRangeBetweenNodes
open Go.ChangeShapes Go.WideShapes Go.ChangeAt Go.RowKit
set_option linter.unusedVariables false

set_option maxHeartbeats 1600000 in
theorem walk (a0 : ByteArray) (a1 : Int) (a2 : Int) (a3 : Int) (a4 : Int) (a5 : ByteArray) (a6 : Int) (a7 : Int) (a8 : Int) (a9 : Int) (w : World) (w0 : a0.size ≤ maxLen) (w1 : (Lit.int .i64 a1).wf = true) (w2 : (Lit.int .i64 a2).wf = true) (w3 : (Lit.int .i64 a3).wf = true) (w4 : (Lit.int .i64 a4).wf = true) (w5 : a5.size ≤ maxLen) (w6 : (Lit.int .i64 a6).wf = true) (w7 : (Lit.int .i64 a7).wf = true) (w8 : (Lit.int .i64 a8).wf = true) (w9 : (Lit.int .i64 a9).wf = true) :
    Calls Try.prog 3 #[.string a0, .int .i64 a1, .int .i64 a2, .int .i64 a3, .int .i64 a4, .string a5, .int .i64 a6, .int .i64 a7, .int .i64 a8, .int .i64 a9] w fun e w' => e = .returned (.bool true) ∧ Below w.heap.size w w' := by
  clear w1 w2 w3 w4 w6 w7 w8 w9
  have hm0 := w0
  have hm5 := w5
  unfold maxLen at hm0 hm5
  have hpn := fun W => equalIn_ptr_nil (P := Try.prog) W 9998 Try.underlying29
  have hnq := fun W (x : Addr) => Lib.run_eql_slice_nil (P := Try.prog) W 28 59 (some x) 0 0 0 0 Try.underlying28
  have hfd := fun W => run_neq_slice_nil_any (P := Try.prog) W 24 67 none 0 0 0 0 Try.underlying24
  go_enter Try.func3, Try.ntmps3
  go_wp2_with fail
  refine (bytes_any _ _ _ _ _ _ _ _ _ _ _ w0 w5).mono ?_
  rintro e w' ⟨r, rfl, hr, rfl⟩
  cases r
  · go_wp2_with fail
    go_ret
    exact ⟨rfl, Below.refl _ _⟩
  obtain ⟨hl0, hl5⟩ := hr rfl
  clear hr
  go_wp2_with fail
  all_goals try (go_ret; exact ⟨rfl, Below.refl _ _⟩)
  refine (mkLoc_any _ _ _ _ _ _).mono ?_
  rintro e w2 ⟨rfl, hb2⟩
  go_wp2_with fail
  refine (newNodeLoc_any _ _ _ _ _ _ _ _ _ _).mono ?_
  rintro e w3 ⟨x, rfl, hb3⟩
  have hbel3 := below_trans hb2 hb3
  clear hb2 hb3
  go_wp2_with fail
  refine (mkLoc_any _ _ _ _ _ _).mono ?_
  rintro e w4 ⟨rfl, hb4⟩
  have hbA4 := (Blk.new w3 35 #[.slice none 0 0, .pointer none, .slice (some x) 0 0, .pointer none, .string a0, .int .i64 a1, .int .i64 a2, .int .i64 a3, .int .i64 a4]).below hb4 (by simp)
  have hbel4 := below_trans (below_alloc hbel3 _) hb4
  clear hb4 hbel3
  go_wp2_with fail
  refine (newNodeLoc_any _ _ _ _ _ _ _ _ _ _).mono ?_
  rintro e w5 ⟨y, rfl, hb5⟩
  have hbA5 := hbA4.below hb5 hbA4.lt
  have hbel5 := below_trans hbel4 hb5
  clear hb5 hbel4 hbA4
  have hbA6 := hbA5.alloc (.cells #[.slice none 0 0, .pointer none, .slice (some y) 0 0, .pointer none, .string a5, .int .i64 a6, .int .i64 a7, .int .i64 a8, .int .i64 a9] 35)
  have hbB6 := Blk.new w5 35 #[.slice none 0 0, .pointer none, .slice (some y) 0 0, .pointer none, .string a5, .int .i64 a6, .int .i64 a7, .int .i64 a8, .int .i64 a9]
  have hne : ¬ w3.heap.size = w5.heap.size := by have := hbA5.lt; omega
  go_wp2_with (go_at_call 12; refine (loc_any _ _).mono ?_; rintro e w' ⟨rfl, rfl⟩)
  refine (between_any _ _ _ _ a0 a1 a2 a8 a9 _ (hbA6.cell 3) (hbA6.cell 4) (hbA6.cell 5) (hbA6.cell 6) (hbB6.cell 3) (hbB6.cell 7) (hbB6.cell 8)).mono ?_
  rintro e w7 ⟨rfl, hb7⟩
  have hbA7 := hbA6.below hb7 hbA6.lt
  have hbB7 := hbB6.below hb7 hbB6.lt
  have hbel7 := below_trans (below_alloc hbel5 _) hb7
  clear hb7 hbA5 hbA6 hbB6 hbel5
  go_wp2_with (go_at_call 12; refine (loc_any _ _).mono ?_; rintro e w' ⟨rfl, rfl⟩)
  go_region_held3 (fun w' => w'.cell? ⟨w7.heap.size, 0, none⟩ = some (.pointer none) ∧ w'.cell? ⟨w7.heap.size, 1, none⟩ = some (.string a0) ∧ w'.cell? ⟨w7.heap.size, 2, none⟩ = some (.int .i64 a1) ∧ w'.cell? ⟨w7.heap.size, 3, none⟩ = some (.int .i64 a2) ∧ w'.cell? ⟨w7.heap.size, 4, none⟩ = some (.int .i64 a8) ∧ w'.cell? ⟨w7.heap.size, 5, none⟩ = some (.int .i64 a9)) (go_keep)
    (first | (go_at_call 10; refine (mkLoc_any _ _ _ _ _ _).mono ?_; rintro e w8 ⟨rfl, hb8⟩; obtain ⟨hc8, hf8⟩ := bcell hb8))
  rename_i hheld
  clear hheld hc8 hf8
  have hbA8 := ((hbA7.alloc _).drew).below hb8 (hbA7.alloc _).lt
  have hbB8 := ((hbB7.alloc _).drew).below hb8 (hbB7.alloc _).lt
  have hbR8 := ((Blk.new w7 33 #[.pointer none, .string a0, .int .i64 a1, .int .i64 a2, .int .i64 a8, .int .i64 a9]).drew).below hb8 (Blk.new w7 _ _).lt
  have hbel8 := below_trans (Below.drew (below_alloc hbel7 _)) hb8
  clear hb8 hbA7 hbB7 hbel7
  have hcR := hbR8.cell
  go_wp2_with (first | (go_at_call 13; go_in) | (go_at_call 31; go_in))
  have c3 : w8.cell? ⟨w3.heap.size, 3, none⟩ = some (.pointer none) := hbA8.cell 3
  have c4 : w8.cell? ⟨w3.heap.size, 4, none⟩ = some (.string a0) := hbA8.cell 4
  have c5 : w8.cell? ⟨w3.heap.size, 5, none⟩ = some (.int .i64 a1) := hbA8.cell 5
  have c6 : w8.cell? ⟨w3.heap.size, 6, none⟩ = some (.int .i64 a2) := hbA8.cell 6
  have c7 : w8.cell? ⟨w3.heap.size, 7, none⟩ = some (.int .i64 a3) := hbA8.cell 7
  have c8 : w8.cell? ⟨w3.heap.size, 8, none⟩ = some (.int .i64 a4) := hbA8.cell 8
  have d3 : w8.cell? ⟨w5.heap.size, 3, none⟩ = some (.pointer none) := hbB8.cell 3
  have d4 : w8.cell? ⟨w5.heap.size, 4, none⟩ = some (.string a5) := hbB8.cell 4
  have d5 : w8.cell? ⟨w5.heap.size, 5, none⟩ = some (.int .i64 a6) := hbB8.cell 5
  have d6 : w8.cell? ⟨w5.heap.size, 6, none⟩ = some (.int .i64 a7) := hbB8.cell 6
  have d7 : w8.cell? ⟨w5.heap.size, 7, none⟩ = some (.int .i64 a8) := hbB8.cell 7
  have d8 : w8.cell? ⟨w5.heap.size, 8, none⟩ = some (.int .i64 a9) := hbB8.cell 8
  have lA := hbA8.lt
  have lB := hbB8.lt
  clear hcR hbR8 hbA8 hbB8
  go_region_held3 (fun w' => w'.cell? ⟨w3.heap.size, 3, none⟩ = some (.pointer none) ∧ w'.cell? ⟨w3.heap.size, 4, none⟩ = some (.string a0) ∧ w'.cell? ⟨w3.heap.size, 5, none⟩ = some (.int .i64 a1) ∧ w'.cell? ⟨w3.heap.size, 6, none⟩ = some (.int .i64 a2) ∧ w'.cell? ⟨w3.heap.size, 7, none⟩ = some (.int .i64 a3) ∧ w'.cell? ⟨w3.heap.size, 8, none⟩ = some (.int .i64 a4) ∧ w'.cell? ⟨w5.heap.size, 3, none⟩ = some (.pointer none) ∧ w'.cell? ⟨w5.heap.size, 4, none⟩ = some (.string a5) ∧ w'.cell? ⟨w5.heap.size, 5, none⟩ = some (.int .i64 a6) ∧ w'.cell? ⟨w5.heap.size, 6, none⟩ = some (.int .i64 a7) ∧ w'.cell? ⟨w5.heap.size, 7, none⟩ = some (.int .i64 a8) ∧ w'.cell? ⟨w5.heap.size, 8, none⟩ = some (.int .i64 a9)) (first | go_keep | (go_split_ands; refine ⟨cell_later hb9 (by assumption), cell_later hb9 (by assumption), cell_later hb9 (by assumption), cell_later hb9 (by assumption), cell_later hb9 (by assumption), cell_later hb9 (by assumption), cell_later hb9 (by assumption), cell_later hb9 (by assumption), cell_later hb9 (by assumption), cell_later hb9 (by assumption), cell_later hb9 (by assumption), cell_later hb9 (by assumption)⟩))
    (first | (go_at_call 12; refine (loc_any _ _).mono ?_; rintro e w' ⟨rfl, rfl⟩) | (go_at_call 10; refine (mkLoc_any _ _ _ _ _ _).mono ?_; rintro e w9 ⟨rfl, hb9⟩; obtain ⟨hc9, hf9⟩ := bcell hb9))
  go_wp2
  go_ret
  exact ⟨rfl, by repeat (first | (with_reducible exact Below.refl _ _) | (with_reducible assumption) | (with_reducible refine below_drewN ?_ _) | (with_reducible refine Below.drew ?_) | (with_reducible refine below_alloc ?_ _) | (with_reducible refine below_set ?_ (by simp <;> omega) _) | (with_reducible refine below_trans ?_ (by assumption)))⟩
end Go.Proofs.Ytdmlaofjckopgaa.fnLocRangeBetweenNodes
