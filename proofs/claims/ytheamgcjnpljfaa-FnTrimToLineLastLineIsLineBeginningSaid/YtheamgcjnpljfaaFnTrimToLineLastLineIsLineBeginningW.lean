/- The walk of FnTrimToLineLastLineIsLineBeginning. -/
import Derived.Test.YtheamgcjnpljfaaFnTrimToLineLastLineIsLineBeginningB
import Derived.Test.YtheamgcjnpljfaaC6Copy
import Derived.Test.YtheamgcjnpljfaaC6MakeLoc
import Derived.Test.YtheamgcjnpljfaaC6TooBig
import Derived.Test.YtheamgcjnpljfaaC6Trim
import Derived.Test.YtheamgcjnpljfaaC6LineB
namespace Go.Proofs.Ytheamgcjnpljfaa.fnTrimToLineLastLineIsLineBeginning
open Go.ChangeShapes Go.WideShapes Go.ChangeAt Go.RowKit
set_option linter.unusedVariables false

set_option maxHeartbeats 1600000 in
theorem walk (a0 : Option Addr) (len0 cap0 : Nat) (s0 : List ByteArray) (a1 : ByteArray) (a2 a3 a4 a5 : Int) (w : World) (w0 : IsStrs w a0 len0 cap0 s0) (w1 : a1.size ≤ maxLen) (w2 : (Lit.int .i64 a2).wf = true) (w3 : (Lit.int .i64 a3).wf = true) (w4 : (Lit.int .i64 a4).wf = true) (w5 : (Lit.int .i64 a5).wf = true) :
    Calls Try.prog 3 #[.slice a0 len0 cap0, .string a1, .int .i64 a2, .int .i64 a3, .int .i64 a4, .int .i64 a5] w fun e w' => e = .returned (.bool true) ∧ Below w.heap.size w w' := by
  go_enter Try.func3, Try.ntmps3
  go_wp2_with fail
  refine (bytes_any _ _ _ _ _ _ _ _ _ _ w0 w1).mono ?_
  rintro e w' ⟨r, rfl, hr, rfl⟩
  cases r
  · go_wp2_with fail
    go_ret
    exact ⟨rfl, Below.refl _ _⟩
  obtain ⟨hl, hsh, hfn⟩ := hr rfl
  clear hr
  go_wp2_with fail
  all_goals try (go_ret; exact ⟨rfl, Below.refl _ _⟩)
  refine (tooBig_any _ _ _ _ _ _ w0 w1).mono ?_
  rintro e w' ⟨r, rfl, _, rfl⟩
  cases r
  rotate_left
  · go_wp2_with fail
    go_ret
    exact ⟨rfl, Below.refl _ _⟩
  go_wp2_with fail
  all_goals try (go_ret; exact ⟨rfl, Below.refl _ _⟩)
  refine (clone_any _ _ _ s0 _ w0 hl).mono ?_
  intro e u2 hcp
  obtain ⟨x, c, rfl, _, hb2, hst, _⟩ := hcp.u w0 hl
  clear hcp
  have hsrc := Blk.new u2 29 #[.string ByteArray.empty, .slice x len0 c]
  have hb3 := below_alloc hb2 (.cells #[.string ByteArray.empty, .slice x len0 c] 29)
  have hpe := fun W => equalIn_ptr_same (P := Try.prog) W 9998 (tp := 26) (n := 2) ⟨u2.heap.size, 0, none⟩ Try.underlying26 (by kernel_rfl)
  go_wp2_with fail
  refine (makeLoc_any _ _ _ _ _ _ _).mono ?_
  rintro e u4 ⟨rfl, hb4⟩
  have hB4 : Below w.heap.size w u4 := below_trans hb3 hb4
  clear hb3 hb4 hsrc
  go_wp2_with fail
  refine (trim_last _ _ _ _ _ _ _ (by omega)).mono ?_
  rintro e u5 ⟨he, hb5⟩
  rw [show begCol a2 a3 a4 = 1 by unfold begCol; rw [if_neg (by omega)]] at he
  subst he
  obtain ⟨hc5, hf5⟩ := bcell hb5
  have hz5 : u4.heap.size < u5.heap.size := by have := hb5.size; simp at this; omega
  have hB5 : Below w.heap.size w u5 := below_trans (below_alloc hB4 _) hb5
  clear hb5 hB4
  have hP := Blk.new1 u5 (.cells #[.pointer (some ⟨u2.heap.size, 0, none⟩), .string a1, .int .i64 a4, .int .i64 1, .int .i64 a4, .int .i64 a5] 33) 33 #[.pointer (some ⟨u2.heap.size, 0, none⟩), .string a1, .int .i64 a4, .int .i64 a5, .int .i64 0, .int .i64 0]
  go_wp2_with fail
  refine (lineB_any _ _ _ _ _ _ _ (hP.cell 0) (hP.cell 1) (hP.cell 2) (hP.cell 3)).mono ?_
  rintro e u6 ⟨rfl, hb6⟩
  obtain ⟨hc6, hf6⟩ := bcell hb6
  have hz6 : u5.heap.size + 1 < u6.heap.size := by have := hb6.size; simp at this; omega
  have hz6' : u5.heap.size < u6.heap.size := by omega
  have hB6 : Below w.heap.size w u6 := below_trans (below_alloc (below_alloc hB5 _) _) hb6
  clear hb6 hB5 hP
  go_wp2_with fail
  go_ret
  refine ⟨rfl, ?_⟩
  exact below_alloc hB6 _
end Go.Proofs.Ytheamgcjnpljfaa.fnTrimToLineLastLineIsLineBeginning
