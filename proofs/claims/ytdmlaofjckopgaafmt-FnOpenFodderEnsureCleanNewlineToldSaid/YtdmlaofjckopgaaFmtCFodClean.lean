/- FodderHasCleanEndline, MakeFodderElement. -/
import Derived.Test.YtdmlaofjckopgaaFmtFodMem
import Derived.Test.YtdmlaofjckopgaaFmtChecked
namespace Go.Proofs.YtdmlaofjckopgaaFmt
open Go.ChangeShapes Go.WideShapes Go.ChangeAt Go.RowKit
set_option linter.unusedVariables false

theorem closed_at {fs : List FEl} {n : Nat} {x : FEl} (hn : fs.length = n + 1) (hx : fs[n]? = some x) : closed (fs.map FEl.el) = !(x.kind == 1) := by
  have h : fs.getLast? = some x := by rw [List.getLast?_eq_getElem?, hn]; exact hx
  simp [closed, List.getLast?_map, h, FEl.el]

set_option maxHeartbeats 400000 in
theorem clean_any (a0 : Option Addr) (len0 cap0 : Nat) (s0 : List FEl) (w : World) (w0 : IsFEs w a0 len0 cap0 s0) :
    Calls Tryf.prog 12 #[.slice a0 len0 cap0] w fun e w' => e = .returned (.bool (closed (s0.map FEl.el))) ∧ w = w' := by
  have hm0 : len0 ≤ 9223372036854775807 := by have := w0.lecap; have := w0.capmax; unfold maxLen at this; omega
  rcases Nat.eq_zero_or_pos len0 with h0 | h0
  · subst h0
    have hs0 : s0 = [] := List.eq_nil_of_length_eq_zero w0.len
    subst hs0
    go_enter Tryf.func12, Tryf.ntmps12
    go_wp2
    go_ret
    exact ⟨rfl, rfl⟩
  · obtain ⟨n, rfl⟩ : ∃ n, len0 = n + 1 := ⟨len0 - 1, by omega⟩
    obtain ⟨b, off, x, rfl, hblt, hx, hfe, c0, c1, c2, c3⟩ := w0.at_ (show n < n + 1 by omega)
    have Hc := Lib.hid (closed_at w0.len hx)
    clear hx hfe c0 c2 c3 w0
    have i0 : (0 : Int) < (n : Int) + 1 := by omega
    by_cases hk : x.kind = 1
    · have e1 : (x.kind != 1) = false := by simp [hk]
      have Hk := Lib.hid hk
      clear hk
      go_enter Tryf.func12, Tryf.ntmps12
      go_wp2
      go_ret
      exact ⟨by rw [Hc.out, Hk.out]; rfl, rfl⟩
    · have e1 : (x.kind != 1) = true := by simp [hk]
      have Hk := Lib.hid hk
      clear hk
      go_enter Tryf.func12, Tryf.ntmps12
      go_wp2
      go_ret
      exact ⟨by rw [Hc.out]; have := Hk.out; simp [this], rfl⟩

/-- MakeFodderElement of a paragraph with a comment. -/
theorem mkPara_any (b i : Int) (ca : Option Addr) (cl cc : Nat) (w : World) (h : 0 < cl) (hm : cl ≤ maxLen) :
    Calls Tryf.prog 15 #[.int .i64 2, .int .i64 b, .int .i64 i, .slice ca cl cc] w fun e w' => e = .returned (.agg #[.slice ca cl cc, .int .i64 2, .int .i64 b, .int .i64 i]) ∧ Below w.heap.size w w' := by
  unfold maxLen at hm
  have i0 : (0 : Int) < (cl : Int) := by omega
  have i1 : ¬ (cl : Int) = 0 := by omega
  have i2 : ((cl : Int) == 0) = false := by simp; omega
  have i3 : ¬ cl = 0 := by omega
  go_enter Tryf.func15, Tryf.ntmps15
  go_wp2
  refine bodyPost_ret (v := .agg #[.slice ca cl cc, .int .i64 2, .int .i64 b, .int .i64 i]) (by simp [results, Tryf.results15, go_sem]) rfl ⟨rfl, ?_⟩
  repeat (first | (with_reducible exact Below.refl _ _) | (with_reducible refine below_set ?_ (by simp) _) | (with_reducible refine below_alloc ?_ _))
/-- MakeFodderElement of a line end without a comment. -/
theorem mkLe_any (i : Int) (ca : Option Addr) (w : World) :
    Calls Tryf.prog 15 #[.int .i64 0, .int .i64 0, .int .i64 i, .slice ca 0 0] w fun e w' => e = .returned (.agg #[.slice ca 0 0, .int .i64 0, .int .i64 0, .int .i64 i]) ∧ Below w.heap.size w w' := by
  go_enter Tryf.func15, Tryf.ntmps15
  go_wp2
  refine bodyPost_ret (v := .agg #[.slice ca 0 0, .int .i64 0, .int .i64 0, .int .i64 i]) (by simp [results, Tryf.results15, go_sem]) rfl ⟨rfl, ?_⟩
  repeat (first | (with_reducible exact Below.refl _ _) | (with_reducible refine below_set ?_ (by simp) _) | (with_reducible refine below_alloc ?_ _))
end Go.Proofs.YtdmlaofjckopgaaFmt
