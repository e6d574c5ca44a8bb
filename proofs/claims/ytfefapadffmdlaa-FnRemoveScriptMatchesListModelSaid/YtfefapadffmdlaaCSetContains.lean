/- The sets' methods, over a set that is known as a list. -/
import Derived.Test.YtfefapadffmdlaaSetLib
import Derived.Test.YtfefapadffmdlaaCSetLaw
import Derived.StringKeys
import Derived.Test.YtfefapadffmdlaaChecked
namespace Go.Proofs.Ytfefapadffmdlaa
open Go.ChangeShapes Go.WideShapes Go.ChangeAt Go.RowKit Go.Maps
set_option linter.unusedVariables false

set_option maxHeartbeats 400000 in
theorem contains_any (b : Nat) (acc : List ByteArray) (s : ByteArray) (w : World) (h : IsSet Try.prog 34 w b acc) (hs : s.size ≤ maxLen) :
    Calls Try.prog 18 #[.map (some b), .string s] w fun e w' => e = .returned (.bool (decide (s ∈ acc))) ∧ Below w.heap.size w w' := by
  go_enter Try.func18, Try.ntmps18
  go_wp2_with (at_lookup; refine wpList_lookup_set rfl _ _ 30 rfl 34 42 lawK Try.underlying30 (zeroE _) _ _ rfl (by assumption) _ rfl (keyK (by assumption)) ?_)
  go_ret
  exact ⟨rfl, below_alloc (Below.refl _ _) _⟩
end Go.Proofs.Ytfefapadffmdlaa
