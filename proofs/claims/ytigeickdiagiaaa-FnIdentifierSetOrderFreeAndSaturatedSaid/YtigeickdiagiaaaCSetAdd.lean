/- Add, Contains, Remove of IdentifierSet, over a set that is known as a list. -/
import Derived.Test.YtigeickdiagiaaaSetLib
import Derived.Test.YtigeickdiagiaaaCSetLaw
import Derived.StringKeys
import Derived.Test.YtigeickdiagiaaaChecked
namespace Go.Proofs.Ytigeickdiagiaaa
open Go.ChangeShapes Go.WideShapes Go.ChangeAt Go.RowKit Go.Maps
set_option linter.unusedVariables false

def AddPost (w : World) (b : Nat) (acc : List ByteArray) (s : ByteArray) (e : Ending) (w' : World) : Prop :=
  e = .returned (.bool (decide (s ∉ acc))) ∧ IsSet Try.prog 29 w' b (addS acc s) ∧ w.grownBy w' (some b)

set_option maxHeartbeats 400000 in
theorem add_any (b : Nat) (acc : List ByteArray) (s : ByteArray) (w : World) (h : IsSet Try.prog 29 w b acc) (hs : s.size ≤ maxLen) (hn : acc.length < 4294967296) :
    Calls Try.prog 8 #[.map (some b), .string s] w (AddPost w b acc s) := by
  obtain ⟨hnd, D, hD, hhas, hsz⟩ := h
  have hkey : keyOf Try.prog 29 (.string s) = some (litOf s) := WideMaps.keyOf_string_mk Try.underlying29 hs
  have Hhas := Lib.hid hhas
  have Hsz := Lib.hid hsz
  have hh := hhas s
  clear hhas hsz
  by_cases hin : s ∈ acc
  · have hh' : Maps.has D (litOf s) = true := by rw [hh]; simp [hin]
    have Hin := Lib.hid hin
    clear hh hin
    go_enter Try.func8, Try.ntmps8
    go_wp2_with (first | (at_lookup; refine wpList_lookup_own_unit _ rfl _ _ 27 rfl 29 30 lawK Try.underlying27 (zeroE _) b _ D rfl hD _ _ rfl hkey ?_) | go_in)
    go_ret
    refine ⟨by simp [Hin.out], ?_, grown_of_below (below_alloc (Below.refl _ _) _) _⟩
    unfold addS
    rw [if_pos Hin.out]
    exact ⟨hnd, D, hD.alloc _, Hhas.out, Hsz.out⟩
  · have hh' : Maps.has D (litOf s) = false := by rw [hh]; simp [hin]
    have Hin := Lib.hid hin
    clear hh hin
    go_enter Try.func8, Try.ntmps8
    go_wp2_with (first | (at_lookup; refine wpList_lookup_own_unit _ rfl _ _ 27 rfl 29 30 lawK Try.underlying27 (zeroE _) b _ D rfl hD _ _ rfl hkey ?_) | (at_mapUpdate; refine wpList_mapUpdate_own _ rfl _ _ _ 27 rfl 29 30 lawK Try.underlying27 (unitElem (H := Unit)) b acc.length _ rfl (hD.alloc _) (by unfold maxLen; omega) _ _ _ rfl rfl hkey _ [] unitElem_mk ?_; intro w1 hown1 hgrow1) | go_in)
    go_ret
    refine ⟨by simp [Hin.out], ?_, ?_⟩
    · unfold addS
      rw [if_neg Hin.out]
      exact isSet_put lawK hnd hD Hhas.out Hsz.out Hin.out hown1
    · exact (grown_of_below (below_alloc (Below.refl _ _) _) (some b)).trans hgrow1
end Go.Proofs.Ytigeickdiagiaaa
