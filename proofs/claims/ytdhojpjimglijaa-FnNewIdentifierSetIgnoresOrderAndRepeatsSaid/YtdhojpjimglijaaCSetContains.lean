/- The sets' methods, over a set that is known as a list. -/
import Derived.Test.YtdhojpjimglijaaSetLib
import Derived.Test.YtdhojpjimglijaaCSetLaw
import Derived.StringKeys
import Derived.Test.YtdhojpjimglijaaChecked
namespace Go.Proofs.Ytdhojpjimglijaa
open Go.ChangeShapes Go.WideShapes Go.ChangeAt Go.RowKit Go.Maps
set_option linter.unusedVariables false

set_option maxHeartbeats 400000 in
theorem contains_any (b : Nat) (acc : List ByteArray) (s : ByteArray) (w : World) (h : IsSet Try.prog 35 w b acc) (hs : s.size ≤ maxLen) :
    Calls Try.prog 15 #[.map (some b), .string s] w fun e w' => e = .returned (.bool (decide (s ∈ acc))) ∧ Below w.heap.size w w' := by
  go_enter Try.func15, Try.ntmps15
  go_wp2_with (at_lookup; refine wpList_lookup_set rfl _ _ 27 rfl 35 41 lawK Try.underlying27 (zeroE _) _ _ rfl (by assumption) _ rfl (keyK (by assumption)) ?_)
  go_ret
  exact ⟨rfl, below_alloc (Below.refl _ _) _⟩
end Go.Proofs.Ytdhojpjimglijaa
