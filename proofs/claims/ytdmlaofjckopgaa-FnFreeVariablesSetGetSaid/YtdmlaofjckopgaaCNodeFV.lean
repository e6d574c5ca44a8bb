/- The methods of NodeBase, over a block that is known whole. -/
import Derived.Test.YtdmlaofjckopgaaCommon
import Derived.Test.YtdmlaofjckopgaaChecked
namespace Go.Proofs.Ytdmlaofjckopgaa
open Go.ChangeShapes Go.WideShapes Go.ChangeAt Go.RowKit
set_option linter.unusedVariables false

theorem setFV_any (g : Nat) (c0 c1 c2 c3 c4 c5 c6 c7 c8 : Value) (a : Option Addr) (n c : Nat) (w : World) (h : Blk w g 35 #[c0, c1, c2, c3, c4, c5, c6, c7, c8]) :
    Calls Try.prog 27 #[.pointer (some ⟨g, 0, none⟩), .slice a n c] w fun e w' => e = .returned (.tuple #[]) ∧ Blk w' g 35 #[c0, c1, .slice a n c, c3, c4, c5, c6, c7, c8] ∧ Wrote g w w' := by
  have hc := h.cell 2
  have hf := h.frozen 2
  go_enter Try.func27, Try.ntmps27
  go_wp2
  go_end0
  exact ⟨rfl, h.set_ 2 _, Wrote.set g 2 w _⟩
theorem getFV_any (g : Nat) (c0 c1 c3 c4 c5 c6 c7 c8 : Value) (a : Option Addr) (n c : Nat) (w : World) (h : Blk w g 35 #[c0, c1, .slice a n c, c3, c4, c5, c6, c7, c8]) :
    Calls Try.prog 25 #[.pointer (some ⟨g, 0, none⟩)] w fun e w' => e = .returned (.slice a n c) ∧ w = w' := by
  have hc := h.cell 2
  go_enter Try.func25, Try.ntmps25
  go_wp2
  go_ret
  exact ⟨rfl, rfl⟩
end Go.Proofs.Ytdmlaofjckopgaa
