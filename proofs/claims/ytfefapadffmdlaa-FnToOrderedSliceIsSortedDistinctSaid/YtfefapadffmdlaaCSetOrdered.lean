/- ToOrderedSlice: the set's strings, each once, in ascending order. -/
import Derived.Test.YtfefapadffmdlaaCSetToSlice
import Derived.Test.YtfefapadffmdlaaSortWorld
import Derived.Test.YtfefapadffmdlaaCSortMeth
import Derived.Test.YtfefapadffmdlaaLaySort
namespace Go.Proofs.Ytfefapadffmdlaa
open Go.Shelf Go.RowKit Go.Lib Go.Sort
set_option linter.unusedVariables false

theorem ids_Len (p : Option Addr) (n c : Nat) (W : World) : LenM Try.prog 65 (.slice p n c) n W := by
  unfold LenM
  go_enter Try.func65, Try.ntmps65
  go_wp2
  go_ret
  exact ⟨rfl, 0, rfl⟩

set_option maxHeartbeats 2000000 in
theorem sortIds_any (g n c : Nat) (out : List ByteArray) (w : World) (hn : out.length = n) (hl : n ≤ 1048576) (hb : Blk w g 34 (strA out)) :
    Calls Try.prog 29 #[.iface 47 (.slice (some ⟨g, 0, none⟩) n c)] w fun e w' =>
      e = .returned (.tuple #[]) ∧ ∃ out' : List ByteArray, out'.Perm out ∧ Asc out' ∧ Blk w' g 34 (strA out') ∧ w.grownBy w' (some g) := by
  subst hn
  by_cases h2 : 2 ≤ out.length
  · have hs := Any.sort_Sort_sorted sl11 47 (.slice (some ⟨g, 0, none⟩) (toBs out).size c) _ _ _ (ids_len_reached _ _ _) (ids_less_reached _ _ _) (ids_swap_reached _ _ _) encStr ltStr swo_ltStr
      g 0 (toBs out) (by rw [size_toBs]; exact h2) (by rw [size_toBs]; omega) w (ids_Len _ _ _ _) (ids_LessM g 0 c (toBs out) w (holds_of_blk hb) hb.lt (by rw [size_toBs]; omega)) (ids_SwapM g 0 c (toBs out).size (by rw [size_toBs]; omega)) (holds_of_blk hb) hb.lt
    change Calls Try.prog 29 _ _ _ at hs
    have hsz := size_toBs out
    refine (hsz ▸ hs).mono ?_
    rintro e w' ⟨rfl, d', m, os, hp, hso, rfl⟩
    obtain ⟨hd, hpp⟩ := perm_of_permIn (hsz.symm ▸ hp)
    obtain ⟨hb', hg'⟩ := sorted_blk (n := m) (os := os) hb hd
    exact ⟨rfl, ofBs d', hpp, asc_of_sortedIn hd hso, hb', hg'⟩
  · have hs := Any.sort_Sort_tiny sl11 47 (.slice (some ⟨g, 0, none⟩) out.length c) _ (ids_len_reached _ _ _) out.length (by omega) w (ids_Len _ _ _ _)
    change Calls Try.prog 29 _ _ _ at hs
    refine hs.mono ?_
    rintro e w' ⟨rfl, q, rfl⟩
    refine ⟨rfl, out, List.Perm.refl _, ?_, hb.drewN q, grown_of_below (below_drewN (Below.refl _ _) q) _⟩
    intro i j s t hij hi hj
    exfalso
    have h1 : j < out.length := by
      rcases Nat.lt_or_ge j out.length with h' | h'
      · exact h'
      · rw [List.getElem?_eq_none h'] at hj; cases hj
    omega

set_option maxHeartbeats 2000000 in
theorem toOrdered_any (b : Nat) (acc : List ByteArray) (w : World) (h : IsSet Try.prog 34 w b acc) (hl : acc.length ≤ 1048576) :
    Calls Try.prog 22 #[.map (some b)] w fun e w' => ∃ out : List ByteArray, e = .returned (.slice (some ⟨w.heap.size, 0, none⟩) acc.length acc.length) ∧ out.Perm acc ∧ Asc out ∧ Blk w' w.heap.size 34 (strA out) ∧ IsSet Try.prog 34 w' b acc ∧ Below w.heap.size w w' ∧ (∀ s ∈ out, s.size ≤ maxLen) := by
  have hblt := h.lt
  go_enter Try.func22, Try.ntmps22
  go_wp2_with fail
  refine (toSlice_any _ _ _ h hl).mono ?_
  rintro e w1 ⟨out, rfl, hp, hk, hS, hB, hz⟩
  have Hz := Lib.hid hz
  clear hz
  go_wp2_with fail
  refine (sortIds_any _ _ _ out _ hp.length_eq hl hk).mono ?_
  rintro e w2 ⟨rfl, out', hp', hasc, hk', hg⟩
  have hS2 := hS.kept hg (by simp; omega)
  have hB2 : Below w.heap.size w w2 := below_grown hB hg (Nat.le_refl _)
  have Hasc := Lib.hid hasc
  clear hasc hk hS hB hg
  go_wp2
  go_ret
  exact ⟨out', rfl, hp'.trans hp, Hasc.out, hk', hS2, hB2, fun s hs => Hz.out s (hp'.mem_iff.1 hs)⟩
end Go.Proofs.Ytfefapadffmdlaa
