/- The sets' methods, over a set that is known as a list. -/
import Derived.Test.YtfefapadffmdlaaSetLib
import Derived.Test.YtfefapadffmdlaaCSetLaw
import Derived.StringKeys
import Derived.Test.YtfefapadffmdlaaChecked
namespace Go.Proofs.Ytfefapadffmdlaa
open Go.ChangeShapes Go.WideShapes Go.ChangeAt Go.RowKit Go.Maps
set_option linter.unusedVariables false

def AddPost (w : World) (b : Nat) (acc : List ByteArray) (s : ByteArray) (e : Ending) (w' : World) : Prop :=
  e = .returned (.bool (decide (s ∉ acc))) ∧ IsSet Try.prog 34 w' b (addS acc s) ∧ w.grownBy w' (some b)

set_option maxHeartbeats 400000 in
theorem add_any (b : Nat) (acc : List ByteArray) (s : ByteArray) (w : World) (h : IsSet Try.prog 34 w b acc) (hs : s.size ≤ maxLen) (hn : acc.length < 4294967296) :
    Calls Try.prog 16 #[.map (some b), .string s] w (AddPost w b acc s) := by
  have h' := h.below (below_alloc (Below.refl _ _) (.cells #[] 42))
  by_cases hin : s ∈ acc
  · have hd : decide (s ∈ acc) = true := by simp [hin]
    have Hin := Lib.hid hin
    clear hin
    go_enter Try.func16, Try.ntmps16
    go_wp2_with (at_lookup; refine wpList_lookup_set rfl _ _ 30 rfl 34 42 lawK Try.underlying30 (zeroE _) _ _ rfl (by assumption) _ rfl (keyK (by assumption)) ?_)
    go_ret
    refine ⟨by simp [Hin.out], ?_, grown_of_below (below_alloc (Below.refl _ _) _) _⟩
    unfold addS
    rw [if_pos Hin.out]
    exact h'
  · have hd : decide (s ∈ acc) = false := by simp [hin]
    have Hin := Lib.hid hin
    clear hin
    go_enter Try.func16, Try.ntmps16
    go_wp2_with (first | (at_lookup; refine wpList_lookup_set rfl _ _ 30 rfl 34 42 lawK Try.underlying30 (zeroE _) _ _ rfl (by assumption) _ rfl (keyK (by assumption)) ?_) | (at_mapUpdate; refine wpList_mapUpdate_set rfl _ _ _ 30 rfl 34 42 lawK Try.underlying30 _ _ rfl (by assumption) (by unfold maxLen; omega) _ rfl rfl (keyK (by assumption)) ?_; intro w1 hset1 hgrow1))
    go_ret
    exact ⟨by simp [Hin.out], hset1, (grown_of_below (below_alloc (Below.refl _ _) _) (some b)).trans hgrow1⟩
end Go.Proofs.Ytfefapadffmdlaa
