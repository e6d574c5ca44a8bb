/- idsMatch answers true of two slices that read as one list and are nil together. -/
import Derived.Test.YtdmlaofjckopgaaC25IdsSame
import Derived.Test.YtdmlaofjckopgaaChecked
namespace Go.Proofs.Ytdmlaofjckopgaa
open Go.ChangeShapes Go.WideShapes Go.ChangeAt Go.RowKit
set_option linter.unusedVariables false

theorem idsMatch_yes (a0 a1 : Option Addr) (n c0 c1 : Nat) (ss : List ByteArray) (w : World) (w0 : IsStrs w a0 n c0 ss) (w1 : IsStrs w a1 n c1 ss) (hn : a0.isNone = a1.isNone) :
    Calls Try.prog 28 #[.slice a0 n c0, .slice a1 n c1] w (YesQuiet w) := by
  have heq0 := fun W => Lib.run_eql_slice_nil (P := Try.prog) W 28 59 a0 n c0 0 0 Try.underlying28
  have heq1 := fun W => Lib.run_eql_slice_nil (P := Try.prog) W 51 9 a1 n c1 0 0 Try.underlying51
  rw [hn] at heq0
  clear hn
  go_enter Try.func28, Try.ntmps28
  go_wp2_with fail
  refine (idsSame_yes _ _ _ _ _ ss _ w0 w1).mono ?_
  rintro e w' ⟨rfl, m, rfl⟩
  go_wp2
  go_ret
  exact ⟨rfl, m, rfl⟩
end Go.Proofs.Ytdmlaofjckopgaa
