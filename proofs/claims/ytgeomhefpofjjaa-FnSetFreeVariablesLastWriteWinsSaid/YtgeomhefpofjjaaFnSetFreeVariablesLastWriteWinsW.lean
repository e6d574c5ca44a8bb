/- The walk of FnSetFreeVariablesLastWriteWins. -/
import Derived.Test.YtgeomhefpofjjaaFnSetFreeVariablesLastWriteWinsB
import Derived.Test.YtgeomhefpofjjaaC31Bytes
import Derived.Test.YtgeomhefpofjjaaC31Copy
import Derived.Test.YtgeomhefpofjjaaC31Same
import Derived.Test.YtgeomhefpofjjaaCNode
import Derived.Test.YtgeomhefpofjjaaCNewNode
import Derived.Test.YtgeomhefpofjjaaCMakeLocationRange
namespace Go.Proofs.Ytgeomhefpofjjaa.fnSetFreeVariablesLastWriteWins
open Go.ChangeShapes Go.WideShapes Go.ChangeAt Go.RowKit
set_option linter.unusedVariables false

set_option maxHeartbeats 1600000 in
theorem walk (a0 : Option Addr) (len0 cap0 : Nat) (s0 : List ByteArray) (a1 : Option Addr) (len1 cap1 : Nat) (s1 : List ByteArray) (a2 : ByteArray) (a3 : Int) (a4 : Int) (w : World) (w0 : IsStrs w a0 len0 cap0 s0) (w1 : IsStrs w a1 len1 cap1 s1) (w2 : a2.size ≤ maxLen) (w3 : (Lit.int .i64 a3).wf = true) (w4 : (Lit.int .i64 a4).wf = true) :
    Calls Try.prog 6 #[.slice a0 len0 cap0, .slice a1 len1 cap1, .string a2, .int .i64 a3, .int .i64 a4] w fun e w' => e = .returned (.bool true) ∧ Below w.heap.size w w' := by
  clear w3 w4
  have hm0 : len0 ≤ 9223372036854775807 := by have := w0.lecap; have := w0.capmax; unfold maxLen at this; omega
  have hm1 : len1 ≤ 9223372036854775807 := by have := w1.lecap; have := w1.capmax; unfold maxLen at this; omega
  have hm2 := w2
  unfold maxLen at hm2
  have hnq := fun W (x : Addr) => Lib.run_eql_slice_nil (P := Try.prog) W 31 46 (some x) 0 0 0 0 Try.underlying31
  have hfd := fun W => Lib.run_eql_slice_nil (P := Try.prog) W 27 75 none 0 0 0 0 Try.underlying27
  go_enter Try.func6, Try.ntmps6
  go_wp2_with fail
  refine (bytes_any _ _ _ _ _ _ _ _ _ _ _ _ w0 w1 w2).mono ?_
  rintro e w' ⟨r, rfl, hr, rfl⟩
  cases r
  · go_wp2_with fail
    go_ret
    exact ⟨rfl, Below.refl _ _⟩
  obtain ⟨hl0, hl1, hl2⟩ := hr rfl
  clear hr
  go_wp2_with fail
  all_goals try (go_ret; exact ⟨rfl, Below.refl _ _⟩)
  refine (zzBytes_any _ _ _ _ _ w0).mono ?_
  rintro e w' ⟨n, rfl, hn0, hn1, rfl⟩
  go_wp2_with fail
  refine (zzBytes_any _ _ _ _ _ w1).mono ?_
  rintro e w' ⟨n', rfl, hn0', hn1', rfl⟩
  go_wp2_with fail
  · go_ret
    exact ⟨rfl, Below.refl _ _⟩
  refine (mkRange_any _ _ _ _ _ _ _).mono ?_
  rintro e w3 ⟨rfl, hb3⟩
  have hbL3 := (Blk.new w 34 #[.int .i64 a3, .int .i64 a4]).below hb3 (by simp)
  have hz3 : w.heap.size < w3.heap.size := by have := hb3.size; simp at this; omega
  have hbel3 := below_trans (below_alloc (Below.refl _ w) _) hb3
  clear hb3
  go_wp2_with fail
  refine (newNodeLoc_any _ _ _ _ _ _ _ _ _ _).mono ?_
  rintro e w4 ⟨x, rfl, hb4⟩
  have hbL4 := hbL3.below hb4 hz3
  have hz4 : w.heap.size < w4.heap.size := Nat.lt_of_lt_of_le hz3 hb4.size
  have hbel4 := below_trans hbel3 hb4
  clear hb4 hbL3 hz3 hbel3
  go_wp2_with fail
  have hbN4 := Blk.new w4 38 #[.slice none 0 0, .pointer none, .slice (some x) 0 0, .pointer none, .string ⟨#[102]⟩, .int .i64 a3, .int .i64 a4, .int .i64 a3, .int .i64 a4]
  refine (getFV_any _ _ _ _ _ _ _ _ _ _ _ _ _ hbN4).mono ?_
  rintro e w' ⟨rfl, rfl⟩
  have hpp := fun W => neq_ptr_same (P := Try.prog) W (tp := 29) (n := 1) ⟨w4.heap.size + 1, 0, none⟩ Try.underlying29 (by kernel_rfl)
  go_wp2_with fail
  have hbC4 := Blk.new (w4.alloc (.cells #[.slice none 0 0, .pointer none, .slice (some x) 0 0, .pointer none, .string ⟨#[102]⟩, .int .i64 a3, .int .i64 a4, .int .i64 a3, .int .i64 a4] 38)) 9 #[.string a2]
  simp only [World.size_alloc] at hbC4
  refine (setCtx_any _ _ _ _ _ _ _ _ _ _ _ _ (hbN4.alloc _)).mono ?_
  rintro e w5 ⟨rfl, hbN5, hw5⟩
  have hz5 : w4.heap.size + 1 < w5.heap.size := by rw [hw5.size]; simp
  have hbel5 := below_wrote (below_alloc (below_alloc hbel4 _) _) hw5 (Nat.le_of_lt hz4)
  have hbL5 := ((hbL4.alloc _).alloc _).wrote hw5 (by omega)
  have hbC5 := hbC4.wrote hw5 (by omega)
  clear hbN4 hbC4 hbel4 hbL4 hw5
  go_wp2_with fail
  refine (toIdents_any _ _ _ s0 _ (w0.keep hbel5) hl0).mono ?_
  intro e w6 hcp
  obtain ⟨a', c', rfl, hnn, hb6, hst6, hnew6⟩ := hcp.u (w0.keep hbel5) hl0
  have hz6 : w4.heap.size + 1 < w6.heap.size := Nat.lt_of_lt_of_le hz5 hb6.size
  have hbel6 := below_trans hbel5 hb6
  have hbL6 := hbL5.below hb6 (by omega)
  have hbC6 := hbC5.below hb6 (by omega)
  have hbN6 := hbN5.below hb6 (by omega)
  clear hcp hbL5 hbC5 hbN5 hbel5 hb6
  go_wp2_with fail
  refine (setFV_any _ _ _ _ _ _ _ _ _ _ _ _ _ _ hbN6).mono ?_
  rintro e w7 ⟨rfl, hbN7, hw7⟩
  have hz7 : w4.heap.size + 1 < w7.heap.size := by rw [hw7.size]; exact hz6
  have hbel7 := below_wrote hbel6 hw7 (Nat.le_of_lt hz4)
  have hbL7 := hbL6.wrote hw7 (by omega)
  have hbC7 := hbC6.wrote hw7 (by omega)
  have hst7 := hst6.wrote hw7 (fun b off he => by have := hnew6 b off he; omega)
  clear hbL6 hbC6 hbN6 hbel6 hw7 hst6
  go_wp2_with fail
  refine (getFV_any _ _ _ _ _ _ _ _ _ _ _ _ _ hbN7).mono ?_
  rintro e w' ⟨rfl, rfl⟩
  go_wp2_with fail
  refine (same_yes _ _ _ _ _ s0 _ hst7 (w0.keep hbel7) hnn).mono ?_
  rintro e w' ⟨rfl, m, rfl⟩
  go_wp2_with fail
  refine (toIdents_any _ _ _ s1 _ (w1.keep (below_drewN hbel7 m)) hl1).mono ?_
  intro e w8 hcp
  obtain ⟨a'', c'', rfl, hnn', hb8, hst8, hnew8⟩ := hcp.u (w1.keep (below_drewN hbel7 m)) hl1
  have hz8 : w4.heap.size + 1 < w8.heap.size := Nat.lt_of_lt_of_le hz7 hb8.size
  have hbel8 := below_trans (below_drewN hbel7 m) hb8
  have hbL8 := (hbL7.drewN m).below hb8 (by simp; omega)
  have hbC8 := (hbC7.drewN m).below hb8 (by simp; omega)
  have hbN8 := (hbN7.drewN m).below hb8 (by simp; omega)
  have hnew9 : ∀ b off, a'' = some ⟨b, off, none⟩ → w7.heap.size ≤ b := hnew8
  clear hcp hbL7 hbC7 hbN7 hbel7 hb8 hst7 hnew8
  go_wp2_with fail
  refine (setFV_any _ _ _ _ _ _ _ _ _ _ _ _ _ _ hbN8).mono ?_
  rintro e w9 ⟨rfl, hbN9, hw9⟩
  have hz9 : w4.heap.size + 1 < w9.heap.size := by rw [hw9.size]; exact hz8
  have hbel9 := below_wrote hbel8 hw9 (Nat.le_of_lt hz4)
  have hbL9 := hbL8.wrote hw9 (by omega)
  have hbC9 := hbC8.wrote hw9 (by omega)
  have hst9 := hst8.wrote hw9 (fun b off he => by have := hnew9 b off he; omega)
  clear hbL8 hbC8 hbN8 hbel8 hw9 hst8
  go_wp2_with fail
  refine (getFV_any _ _ _ _ _ _ _ _ _ _ _ _ _ hbN9).mono ?_
  rintro e w' ⟨rfl, rfl⟩
  go_wp2_with fail
  refine (same_yes _ _ _ _ _ s1 _ hst9 (w1.keep hbel9) hnn').mono ?_
  rintro e w' ⟨rfl, m', rfl⟩
  go_wp2_with fail
  refine (getCtx_any _ _ _ _ _ _ _ _ _ _ _ (hbN9.drewN m')).mono ?_
  rintro e w' ⟨rfl, rfl⟩
  have hcC := hbC9.cell 0
  have hcN := hbN9.cell
  have hcL := hbL9.cell
  clear hst9 hnew6 hnew9 hnn hnn' w0 w1
  go_wp2
  go_quiet (fail)
  go_wp2
  go_ret
  exact ⟨rfl, by repeat (first | exact Below.refl _ _ | assumption | refine below_drewN ?_ _ | refine Below.drew ?_ | refine below_alloc ?_ _ | refine below_set ?_ (by simp <;> omega) _ | refine below_trans ?_ (by assumption))⟩
end Go.Proofs.Ytgeomhefpofjjaa.fnSetFreeVariablesLastWriteWins
