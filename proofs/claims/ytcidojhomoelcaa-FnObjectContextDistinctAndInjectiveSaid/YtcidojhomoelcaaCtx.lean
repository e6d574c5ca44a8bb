/- functionContext and objectContext: what each hands back, and that the two texts differ and tell their names apart. -/
import Derived.Test.YtcidojhomoelcaaCommon
import Derived.Test.YtcidojhomoelcaaChecked
import Derived.Deep.QuietTactic
import Derived.BigQuiet
import Derived.Outline
namespace Go.Proofs.Ytcidojhomoelcaa
open Go.ChangeShapes Go.WideShapes Go.ChangeAt Go.RowKit
set_option linter.unusedVariables false

def fctx (s : ByteArray) : ByteArray := ⟨#[102, 117, 110, 99, 116, 105, 111, 110, 32, 60]⟩ ++ s ++ ⟨#[62]⟩
def octx (s : ByteArray) : ByteArray := ⟨#[111, 98, 106, 101, 99, 116, 32, 60]⟩ ++ s ++ ⟨#[62]⟩

theorem data_app (a b : ByteArray) : (a ++ b).data.toList = a.data.toList ++ b.data.toList := by simp

theorem fctx_list (s : ByteArray) : (fctx s).data.toList = [102, 117, 110, 99, 116, 105, 111, 110, 32, 60] ++ s.data.toList ++ [62] := by unfold fctx; rw [data_app, data_app]
theorem octx_list (s : ByteArray) : (octx s).data.toList = [111, 98, 106, 101, 99, 116, 32, 60] ++ s.data.toList ++ [62] := by unfold octx; rw [data_app, data_app]

theorem fctx_inj (a b : ByteArray) : fctx a = fctx b ↔ a = b := by
  refine ⟨fun h => ?_, fun h => by rw [h]⟩
  have := congrArg (fun x : ByteArray => x.data.toList) h
  simp only [fctx_list] at this
  exact bytes_inj (by simpa using this)
theorem octx_inj (a b : ByteArray) : octx a = octx b ↔ a = b := by
  refine ⟨fun h => ?_, fun h => by rw [h]⟩
  have := congrArg (fun x : ByteArray => x.data.toList) h
  simp only [octx_list] at this
  exact bytes_inj (by simpa using this)
theorem octx_ne_fctx (a b : ByteArray) : octx a ≠ fctx b := by
  intro h
  have := congrArg (fun x : ByteArray => x.data.toList) h
  simp only [fctx_list, octx_list] at this
  simp at this

theorem fctx_any (s : ByteArray) (w : World) (hs : s.size ≤ 1048576) :
    Calls Try.prog 6 #[.string s] w fun e w' => e = .returned (.pointer (some ⟨w.heap.size, 0, none⟩)) ∧ w.alloc (.cells #[.string (fctx s)] 9) = w' := by
  go_enter Try.func6, Try.ntmps6
  go_wp2
  go_ret
  exact ⟨rfl, rfl⟩

theorem octx_any (s : ByteArray) (w : World) (hs : s.size ≤ 1048576) :
    Calls Try.prog 8 #[.string s] w fun e w' => e = .returned (.pointer (some ⟨w.heap.size, 0, none⟩)) ∧ w.alloc (.cells #[.string (octx s)] 9) = w' := by
  go_enter Try.func8, Try.ntmps8
  go_wp2
  go_ret
  exact ⟨rfl, rfl⟩
end Go.Proofs.Ytcidojhomoelcaa
