/- The walk of FnFodderElementCountNewlinesReadsOnlyKindCountAndBlanks. -/
import Derived.Test.YtdhojpjimglijaaFmtFnFodderElementCountNewlinesReadsOnlyKindCountAndBlanksB
import Derived.Test.YtdhojpjimglijaaFmtC167Bytes
import Derived.Test.YtdhojpjimglijaaFmtC167Copy
import Derived.Test.YtdhojpjimglijaaFmtC167Count
namespace Go.Proofs.YtdhojpjimglijaaFmt.fnFodderElementCountNewlinesReadsOnlyKindCountAndBlanks
open Go.ChangeShapes Go.WideShapes Go.ChangeAt Go.RowKit
set_option linter.unusedVariables false

set_option maxHeartbeats 1600000 in
theorem walk (a0 : Int) (a1 : Int) (a2 : Int) (a3 : Int) (a4 : Option Addr) (len4 cap4 : Nat) (s4 : List ByteArray) (w : World) (w0 : (Lit.int .i64 a0).wf = true) (w1 : (Lit.int .i64 a1).wf = true) (w2 : (Lit.int .i64 a2).wf = true) (w3 : (Lit.int .i64 a3).wf = true) (w4 : IsStrs w a4 len4 cap4 s4) :
    Calls Tryf.prog 3 #[.int .i64 a0, .int .i64 a1, .int .i64 a2, .int .i64 a3, .slice a4 len4 cap4] w fun e w' => e = .returned (.bool true) ∧ Below w.heap.size w w' := by
  go_enter Tryf.func3, Tryf.ntmps3
  go_wp2_with fail
  refine (bytes_any _ _ _ _ _ _ _ _ _ w4).mono ?_
  rintro e w' ⟨r, rfl, hr, rfl⟩
  cases r
  · go_wp2_with fail
    go_ret
    exact ⟨rfl, Below.refl _ _⟩
  obtain ⟨hl, hsh⟩ := hr rfl
  clear hr
  go_wp2_with fail
  all_goals try (go_ret; exact ⟨rfl, Below.refl _ _⟩)
  refine (sbytes_any _ _ _ _ _ w4).mono ?_
  rintro e w' ⟨n, rfl, hn0, hn1, rfl⟩
  go_wp2_with fail
  all_goals try (go_ret; exact ⟨rfl, Below.refl _ _⟩)
  refine (clone_any _ _ _ s4 _ w4 hl).mono ?_
  intro e u2 hcp
  obtain ⟨x, c, rfl, _, hb2, hst, _⟩ := hcp.u w4 hl
  clear hcp hst
  have hmk := make_strs (P := Tryf.prog) Tryf.underlying22 (e := 9) (by kernel_rfl) len4 (by omega)
  have hk : a0 = 0 ∨ a0 = 1 ∨ a0 = 2 := by omega
  have hbl : -1073741824 ≤ a1 ∧ a1 ≤ 1073741824 := by omega
  rcases hk with rfl | rfl | rfl
  · go_wp2_with fail
    refine (count0 _ _ _ _ _ _).mono ?_
    rintro e u3 ⟨rfl, hb3⟩
    obtain ⟨hc3, hf3⟩ := bcell hb3
    have hz3 : u2.heap.size + 2 < u3.heap.size := by have := hb3.size; simp at this; omega
    have hz3' : u2.heap.size + 1 < u3.heap.size := by omega
    have hB3 : Below w.heap.size w u3 := below_trans (below_alloc (below_alloc (below_alloc hb2 _) _) _) hb3
    clear hb3
    go_wp2_with fail
    refine (count0 _ _ _ _ _ _).mono ?_
    rintro e u4 ⟨rfl, hb4⟩
    obtain ⟨hc4, hf4⟩ := bcell hb4
    have hz4 : u2.heap.size + 2 < u4.heap.size := by have := hb4.size; omega
    have hz4' : u2.heap.size + 1 < u4.heap.size := by omega
    have hB4 : Below w.heap.size w u4 := below_trans hB3 hb4
    clear hb4 hB3
    go_wp2_with fail
    refine (count0 _ _ _ _ _ _).mono ?_
    rintro e u5 ⟨rfl, hb5⟩
    have hB5 : Below w.heap.size w u5 := below_trans (below_alloc hB4 _) hb5
    clear hb5 hB4 hc3 hf3 hc4 hf4
    go_wp2
    all_goals (go_ret; exact ⟨rfl, hB5⟩)
  · go_wp2_with fail
    refine (count1 _ _ _ _ _ _).mono ?_
    rintro e u3 ⟨rfl, hb3⟩
    obtain ⟨hc3, hf3⟩ := bcell hb3
    have hz3 : u2.heap.size + 2 < u3.heap.size := by have := hb3.size; simp at this; omega
    have hz3' : u2.heap.size + 1 < u3.heap.size := by omega
    have hB3 : Below w.heap.size w u3 := below_trans (below_alloc (below_alloc (below_alloc hb2 _) _) _) hb3
    clear hb3
    go_wp2_with fail
    refine (count1 _ _ _ _ _ _).mono ?_
    rintro e u4 ⟨rfl, hb4⟩
    obtain ⟨hc4, hf4⟩ := bcell hb4
    have hz4 : u2.heap.size + 2 < u4.heap.size := by have := hb4.size; omega
    have hz4' : u2.heap.size + 1 < u4.heap.size := by omega
    have hB4 : Below w.heap.size w u4 := below_trans hB3 hb4
    clear hb4 hB3
    go_wp2_with fail
    refine (count1 _ _ _ _ _ _).mono ?_
    rintro e u5 ⟨rfl, hb5⟩
    have hB5 : Below w.heap.size w u5 := below_trans (below_alloc hB4 _) hb5
    clear hb5 hB4 hc3 hf3 hc4 hf4
    go_wp2
    all_goals (go_ret; exact ⟨rfl, hB5⟩)
  · go_wp2_with fail
    refine (count2 _ _ _ _ _ _ hl (by omega) (by omega)).mono ?_
    rintro e u3 ⟨rfl, hb3⟩
    obtain ⟨hc3, hf3⟩ := bcell hb3
    have hz3 : u2.heap.size + 2 < u3.heap.size := by have := hb3.size; simp at this; omega
    have hz3' : u2.heap.size + 1 < u3.heap.size := by omega
    have hB3 : Below w.heap.size w u3 := below_trans (below_alloc (below_alloc (below_alloc hb2 _) _) _) hb3
    clear hb3
    go_wp2_with fail
    refine (count2 _ _ _ _ _ _ hl (by omega) (by omega)).mono ?_
    rintro e u4 ⟨rfl, hb4⟩
    obtain ⟨hc4, hf4⟩ := bcell hb4
    have hz4 : u2.heap.size + 2 < u4.heap.size := by have := hb4.size; omega
    have hz4' : u2.heap.size + 1 < u4.heap.size := by omega
    have hB4 : Below w.heap.size w u4 := below_trans hB3 hb4
    clear hb4 hB3
    go_wp2_with fail
    refine (count2 _ _ _ _ _ _ hl (by omega) (by omega)).mono ?_
    rintro e u5 ⟨rfl, hb5⟩
    have hB5 : Below w.heap.size w u5 := below_trans (below_alloc hB4 _) hb5
    clear hb5 hB4 hc3 hf3 hc4 hf4
    go_wp2
    all_goals (go_ret; exact ⟨rfl, hB5⟩)
end Go.Proofs.YtdhojpjimglijaaFmt.fnFodderElementCountNewlinesReadsOnlyKindCountAndBlanks
