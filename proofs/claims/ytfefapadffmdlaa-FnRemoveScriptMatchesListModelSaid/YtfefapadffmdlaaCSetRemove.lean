/- The sets' methods, over a set that is known as a list. -/
import Derived.Test.YtfefapadffmdlaaSetLib
import Derived.Test.YtfefapadffmdlaaCSetLaw
import Derived.StringKeys
import Derived.Test.YtfefapadffmdlaaChecked
namespace Go.Proofs.Ytfefapadffmdlaa
open Go.ChangeShapes Go.WideShapes Go.ChangeAt Go.RowKit Go.Maps
set_option linter.unusedVariables false

set_option maxHeartbeats 400000 in
theorem remove_any (b : Nat) (acc : List ByteArray) (s : ByteArray) (w : World) (h : IsSet Try.prog 34 w b acc) (hs : s.size ≤ maxLen) :
    Calls Try.prog 17 #[.map (some b), .string s] w fun e w' => e = .returned (.tuple #[]) ∧ IsSet Try.prog 34 w' b (remS acc s) ∧ w.grownBy w' (some b) := by
  obtain ⟨hnd, D, hD, hhas, hsz⟩ := h
  have hkey := keyK hs
  have Hhas := Lib.hid hhas
  have Hsz := Lib.hid hsz
  clear hhas hsz
  go_enter Try.func17, Try.ntmps17
  go_wp2_with (at_delete; refine wpList_delete_own _ rfl _ _ 30 34 rfl 42 lawK Try.underlying30 _ b _ D rfl hD _ _ rfl hkey ?_; intro w1 hown1 hturn1)
  go_end0
  exact ⟨rfl, isSet_del lawK hnd hD Hhas.out Hsz.out hown1, hturn1.grown⟩
end Go.Proofs.Ytfefapadffmdlaa
