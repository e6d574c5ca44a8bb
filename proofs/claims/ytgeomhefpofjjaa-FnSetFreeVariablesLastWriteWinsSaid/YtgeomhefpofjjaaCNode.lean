/- The methods of NodeBase, over a block that is known whole. -/
import Derived.Test.YtgeomhefpofjjaaCommon
import Derived.Test.YtgeomhefpofjjaaChecked
namespace Go.Proofs.Ytgeomhefpofjjaa
open Go.ChangeShapes Go.WideShapes Go.ChangeAt Go.RowKit
set_option linter.unusedVariables false

theorem setFV_any (g : Nat) (c0 c1 c2 c3 c4 c5 c6 c7 c8 : Value) (a : Option Addr) (n c : Nat) (w : World) (h : Blk w g 38 #[c0, c1, c2, c3, c4, c5, c6, c7, c8]) :
    Calls Try.prog 10 #[.pointer (some ⟨g, 0, none⟩), .slice a n c] w fun e w' => e = .returned (.tuple #[]) ∧ Blk w' g 38 #[c0, c1, .slice a n c, c3, c4, c5, c6, c7, c8] ∧ Wrote g w w' := by
  have hc := h.cell 2
  have hf := h.frozen 2
  go_enter Try.func10, Try.ntmps10
  go_wp2
  go_end0
  exact ⟨rfl, h.set_ 2 _, Wrote.set g 2 w _⟩
theorem setCtx_any (g : Nat) (c0 c1 c2 c3 c4 c5 c6 c7 c8 : Value) (p : Option Addr) (w : World) (h : Blk w g 38 #[c0, c1, c2, c3, c4, c5, c6, c7, c8]) :
    Calls Try.prog 11 #[.pointer (some ⟨g, 0, none⟩), .pointer p] w fun e w' => e = .returned (.tuple #[]) ∧ Blk w' g 38 #[c0, .pointer p, c2, c3, c4, c5, c6, c7, c8] ∧ Wrote g w w' := by
  have hc := h.cell 1
  have hf := h.frozen 1
  go_enter Try.func11, Try.ntmps11
  go_wp2
  go_end0
  exact ⟨rfl, h.set_ 1 _, Wrote.set g 1 w _⟩
theorem getFV_any (g : Nat) (c0 c1 c3 c4 c5 c6 c7 c8 : Value) (a : Option Addr) (n c : Nat) (w : World) (h : Blk w g 38 #[c0, c1, .slice a n c, c3, c4, c5, c6, c7, c8]) :
    Calls Try.prog 13 #[.pointer (some ⟨g, 0, none⟩)] w fun e w' => e = .returned (.slice a n c) ∧ w = w' := by
  have hc := h.cell 2
  go_enter Try.func13, Try.ntmps13
  go_wp2
  go_ret
  exact ⟨rfl, rfl⟩
theorem getCtx_any (g : Nat) (c0 c2 c3 c4 c5 c6 c7 c8 : Value) (p : Option Addr) (w : World) (h : Blk w g 38 #[c0, .pointer p, c2, c3, c4, c5, c6, c7, c8]) :
    Calls Try.prog 12 #[.pointer (some ⟨g, 0, none⟩)] w fun e w' => e = .returned (.pointer p) ∧ w = w' := by
  have hc := h.cell 1
  go_enter Try.func12, Try.ntmps12
  go_wp2
  go_ret
  exact ⟨rfl, rfl⟩
end Go.Proofs.Ytgeomhefpofjjaa
