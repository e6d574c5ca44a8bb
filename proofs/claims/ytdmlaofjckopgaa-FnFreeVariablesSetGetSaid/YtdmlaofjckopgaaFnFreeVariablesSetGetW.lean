/- The walk of FnFreeVariablesSetGet. -/
import Derived.Test.YtdmlaofjckopgaaFnFreeVariablesSetGetB
import Derived.Test.YtdmlaofjckopgaaC25IdsBytes
import Derived.Test.YtdmlaofjckopgaaC25Copy
import Derived.Test.YtdmlaofjckopgaaC25IdsMatch
import Derived.Test.YtdmlaofjckopgaaCNodeFV
import Derived.Test.YtdmlaofjckopgaaCNewNode
namespace Go.Proofs.Ytdmlaofjckopgaa.fnFreeVariablesSetGet
open Go.ChangeShapes Go.WideShapes Go.ChangeAt Go.RowKit
set_option linter.unusedVariables false

set_option maxHeartbeats 1600000 in
theorem walk (a0 : Option Addr) (len0 cap0 : Nat) (s0 : List ByteArray) (a1 : Option Addr) (len1 cap1 : Nat) (s1 : List ByteArray) (w : World) (w0 : IsStrs w a0 len0 cap0 s0) (w1 : IsStrs w a1 len1 cap1 s1) :
    Calls Try.prog 7 #[.slice a0 len0 cap0, .slice a1 len1 cap1] w fun e w' => e = .returned (.bool true) ∧ Below w.heap.size w w' := by
  have hm0 : len0 ≤ 9223372036854775807 := by have := w0.lecap; have := w0.capmax; unfold maxLen at this; omega
  have hm1 : len1 ≤ 9223372036854775807 := by have := w1.lecap; have := w1.capmax; unfold maxLen at this; omega
  have hpn := fun W => equalIn_ptr_nil (P := Try.prog) W 9998 Try.underlying29
  have hnq := fun W (x : Addr) => Lib.run_eql_slice_nil (P := Try.prog) W 28 59 (some x) 0 0 0 0 Try.underlying28
  have hfd := fun W => run_neq_slice_nil_any (P := Try.prog) W 24 67 none 0 0 0 0 Try.underlying24
  go_enter Try.func7, Try.ntmps7
  go_wp2_with fail
  refine (bytes_any _ _ _ _ _ _ _ _ _ w0 w1).mono ?_
  rintro e w' ⟨r, rfl, hr, rfl⟩
  cases r
  · go_wp2_with fail
    go_ret
    exact ⟨rfl, Below.refl _ _⟩
  obtain ⟨hl0, hl1⟩ := hr rfl
  clear hr
  go_wp2_with fail
  refine (idsBytes_any _ _ _ _ _ w0).mono ?_
  rintro e w' ⟨n, rfl, hn0, hn1, rfl⟩
  go_wp2_with fail
  refine (idsBytes_any _ _ _ _ _ w1).mono ?_
  rintro e w' ⟨n', rfl, hn0', hn1', rfl⟩
  go_wp2_with fail
  · go_ret
    exact ⟨rfl, Below.refl _ _⟩
  refine (newNodeLoc_any _ _ _ _ _ _ _ _ _ _).mono ?_
  rintro e w4 ⟨x, rfl, hb4⟩
  have hz4 := hb4.size
  go_wp2_with fail
  have hbN4 := Blk.new w4 35 #[.slice none 0 0, .pointer none, .slice (some x) 0 0, .pointer none, .string ⟨#[]⟩, .int .i64 0, .int .i64 0, .int .i64 0, .int .i64 0]
  refine (getFV_any _ _ _ _ _ _ _ _ _ _ _ _ _ hbN4).mono ?_
  rintro e w' ⟨rfl, rfl⟩
  have hbel5 := below_alloc hb4 (.cells #[.slice none 0 0, .pointer none, .slice (some x) 0 0, .pointer none, .string ⟨#[]⟩, .int .i64 0, .int .i64 0, .int .i64 0, .int .i64 0] 35)
  go_wp2_with fail
  refine (toIds_any _ _ _ s0 _ (w0.keep hbel5) hl0).mono ?_
  intro e w6 hcp
  obtain ⟨a', c', rfl, hnn, hb6, hst6, hnew6⟩ := hcp.u (w0.keep hbel5) hl0
  have hz6 : w4.heap.size < w6.heap.size := by have := hb6.size; simp at this; omega
  have hbel6 := below_trans hbel5 hb6
  have hbN6 := hbN4.below hb6 (by simp)
  have hnew6' : ∀ b off, a' = some ⟨b, off, none⟩ → w4.heap.size + 1 ≤ b := by intro b off he; have := hnew6 b off he; simpa using this
  clear hcp hbN4 hbel5 hb6 hb4 hnew6
  go_wp2_with fail
  refine (setFV_any _ _ _ _ _ _ _ _ _ _ _ _ _ _ hbN6).mono ?_
  rintro e w7 ⟨rfl, hbN7, hw7⟩
  have hz7 : w4.heap.size < w7.heap.size := by rw [hw7.size]; exact hz6
  have hbel7 := below_wrote hbel6 hw7 hz4
  have hst7 := hst6.wrote hw7 (fun b off he => by have := hnew6' b off he; omega)
  clear hbN6 hbel6 hw7 hst6
  go_wp2_with fail
  refine (getFV_any _ _ _ _ _ _ _ _ _ _ _ _ _ hbN7).mono ?_
  rintro e w' ⟨rfl, rfl⟩
  go_wp2_with fail
  refine (idsMatch_yes _ _ _ _ _ s0 _ hst7 (w0.keep hbel7) hnn).mono ?_
  rintro e w' ⟨rfl, m, rfl⟩
  have hbel8 := below_drewN hbel7 m
  have hbN8 := hbN7.drewN m
  have key : ∀ (mm : Nat), True := fun _ => trivial
  clear key
  by_cases h0 : len0 = 0
  all_goals
    first
    | (obtain ⟨b0, off0, sx, ha', _, _, _, _⟩ := hst7.at_ (k := 0) (by omega)
       have h1 : (0 : Int) < (len0 : Int) := by omega
       have h2 : 0 < len0 := by omega
       subst ha'
       have hii := fun W => neq_ptr_same (P := Try.prog) W (tp := 58) (n := 1) ⟨b0, off0, none⟩ Try.underlying58 (by kernel_rfl))
    | (have h1 : ((len0 : Int)) = 0 := by omega
       subst h0)
    clear hst7
    go_wp2_with fail
    go_quiet (fail)
    go_wp2_with fail
    refine (toIds_any _ _ _ s1 _ (w1.keep (by first | exact below_drewN hbel8 _ | exact below_drewN hbel7 _)) hl1).mono ?_
    intro e w9 hcp
    obtain ⟨a'', c'', rfl, hnn', hb9, hst9, hnew9⟩ := hcp.u (w1.keep (by first | exact below_drewN hbel8 _ | exact below_drewN hbel7 _)) hl1
    have hz9 : w7.heap.size ≤ w9.heap.size := hb9.size
    have hbel9 : Below w.heap.size w w9 := below_trans (below_drewN hbel7 _) hb9
    have hbN9 := (hbN7.drewN _).below hb9 hbN7.lt
    have hnew9' : ∀ b off, a'' = some ⟨b, off, none⟩ → w7.heap.size ≤ b := hnew9
    clear hcp hbN7 hbN8 hbel7 hbel8 hb9 hnew9
    go_wp2_with fail
    refine (setFV_any _ _ _ _ _ _ _ _ _ _ _ _ _ _ hbN9).mono ?_
    rintro e w10 ⟨rfl, hbN10, hw10⟩
    have hbel10 := below_wrote hbel9 hw10 hz4
    have hst10 := hst9.wrote hw10 (fun b off he => by have := hnew9' b off he; omega)
    clear hbN9 hbel9 hw10 hst9
    go_wp2_with fail
    refine (getFV_any _ _ _ _ _ _ _ _ _ _ _ _ _ hbN10).mono ?_
    rintro e w' ⟨rfl, rfl⟩
    go_wp2_with fail
    refine (idsMatch_yes _ _ _ _ _ s1 _ hst10 (w1.keep hbel10) hnn').mono ?_
    rintro e w' ⟨rfl, m', rfl⟩
    have hcN := hbN10.cell
    clear hst10 hbN10
    go_wp2
    go_ret
    exact ⟨rfl, below_drewN hbel10 _⟩
end Go.Proofs.Ytdmlaofjckopgaa.fnFreeVariablesSetGet
