/- The walk of FnLocWriteThrough. -/
import Derived.Test.YtdmlaofjckopgaaFnLocWriteThroughB
import Derived.Test.YtdmlaofjckopgaaCMkloc25
import Derived.Test.YtdmlaofjckopgaaCNewNode
import Derived.Test.YtdmlaofjckopgaaCNodeLoc
import Derived.Deep.RegionHeld3
namespace Go.Proofs.Ytdmlaofjckopgaa.fnLocWriteThrough
open Go.ChangeShapes Go.WideShapes Go.ChangeAt Go.RowKit
set_option linter.unusedVariables false

set_option maxHeartbeats 1600000 in
theorem walk (a0 : ByteArray) (a1 : Int) (a2 : Int) (a3 : Int) (a4 : Int) (a5 : ByteArray) (a6 : Int) (a7 : Int) (a8 : Int) (a9 : Int) (w : World) (w0 : a0.size ≤ maxLen) (w1 : (Lit.int .i64 a1).wf = true) (w2 : (Lit.int .i64 a2).wf = true) (w3 : (Lit.int .i64 a3).wf = true) (w4 : (Lit.int .i64 a4).wf = true) (w5 : a5.size ≤ maxLen) (w6 : (Lit.int .i64 a6).wf = true) (w7 : (Lit.int .i64 a7).wf = true) (w8 : (Lit.int .i64 a8).wf = true) (w9 : (Lit.int .i64 a9).wf = true) :
    Calls Try.prog 5 #[.string a0, .int .i64 a1, .int .i64 a2, .int .i64 a3, .int .i64 a4, .string a5, .int .i64 a6, .int .i64 a7, .int .i64 a8, .int .i64 a9] w fun e w' => e = .returned (.bool true) ∧ Below w.heap.size w w' := by
  clear w1 w2 w3 w4 w6 w7 w8 w9
  have hm0 := w0
  have hm5 := w5
  unfold maxLen at hm0 hm5
  have hpn := fun W => equalIn_ptr_nil (P := Try.prog) W 9998 Try.underlying29
  have hnq := fun W (x : Addr) => Lib.run_eql_slice_nil (P := Try.prog) W 28 59 (some x) 0 0 0 0 Try.underlying28
  have hfd := fun W => run_neq_slice_nil_any (P := Try.prog) W 24 67 none 0 0 0 0 Try.underlying24
  go_enter Try.func5, Try.ntmps5
  go_wp2_with fail
  refine (bytes_any _ _ _ _ _ _ _ _ _ _ _ w0 w5).mono ?_
  rintro e w' ⟨r, rfl, hr, rfl⟩
  cases r
  · go_wp2_with fail
    go_ret
    exact ⟨rfl, Below.refl _ _⟩
  obtain ⟨hl0, hl5⟩ := hr rfl
  clear hr
  go_wp2_with fail
  all_goals try (go_ret; exact ⟨rfl, Below.refl _ _⟩)
  refine (mkLoc_any _ _ _ _ _ _).mono ?_
  rintro e w2 ⟨rfl, hb2⟩
  go_wp2_with fail
  refine (newNodeLoc_any _ _ _ _ _ _ _ _ _ _).mono ?_
  rintro e w3 ⟨x, rfl, hb3⟩
  have hbel3 := below_trans hb2 hb3
  clear hb2 hb3
  have hpp := fun W => neq_ptr_same (P := Try.prog) W (tp := 39) (n := 6) ⟨w3.heap.size, 3, none⟩ Try.underlying39 (by kernel_rfl)
  go_wp2_with (go_at_call 12; refine (loc_any _ _).mono ?_; rintro e w' ⟨rfl, rfl⟩)
  go_region_held3 (fun w' => w'.cell? ⟨w3.heap.size, 3, none⟩ = some (.pointer none) ∧ w'.cell? ⟨w3.heap.size, 4, none⟩ = some (.string a0) ∧ w'.cell? ⟨w3.heap.size, 5, none⟩ = some (.int .i64 a1) ∧ w'.cell? ⟨w3.heap.size, 6, none⟩ = some (.int .i64 a2) ∧ w'.cell? ⟨w3.heap.size, 7, none⟩ = some (.int .i64 a3) ∧ w'.cell? ⟨w3.heap.size, 8, none⟩ = some (.int .i64 a4)) (go_keep)
    (first | (go_at_call 10; refine (mkLoc_any _ _ _ _ _ _).mono ?_; rintro e w4 ⟨rfl, hb4⟩; obtain ⟨hc4, hf4⟩ := bcell hb4))
  have hbN4 := ((Blk.new w3 35 #[.slice none 0 0, .pointer none, .slice (some x) 0 0, .pointer none, .string a0, .int .i64 a1, .int .i64 a2, .int .i64 a3, .int .i64 a4]).drew).below hb4 (by simp)
  have hbel4 := below_trans (Below.drew (below_alloc hbel3 _)) hb4
  have hz3 := hbel3.size
  clear hc4 hf4 hb4 hbel3
  rename_i hheld
  clear hheld
  go_wp2_with fail
  refine (mkLoc_any _ _ _ _ _ _).mono ?_
  rintro e w5 ⟨rfl, hb5⟩
  have hbN5 := hbN4.below hb5 hbN4.lt
  have hbel5 := below_trans hbel4 hb5
  have hcN := hbN5.cell
  have hfN := hbN5.frozen
  have hz5 := hbN5.lt
  clear hb5 hbel4 hbN4 hbN5
  go_wp2_with (go_at_call 12; refine (loc_any _ _).mono ?_; rintro e w' ⟨rfl, rfl⟩)
  go_quiet ((go_at_call 12; exact Calls.quiet_of_same (loc_same _ _)))
  go_wp2_with (go_at_call 12; refine (loc_any _ _).mono ?_; rintro e w' ⟨rfl, rfl⟩)
  go_ret
  exact ⟨rfl, below_drewN (below_alloc (below_set (below_set (below_set (below_set (below_set (below_set hbel5 hz3 _) hz3 _) hz3 _) hz3 _) hz3 _) hz3 _) _) _⟩
end Go.Proofs.Ytdmlaofjckopgaa.fnLocWriteThrough
