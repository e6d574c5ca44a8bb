/- More of the plain law of sets: sizes and order of sets that hold the same. -/
import Derived.Test.YtdhojpjimglijaaMerge
namespace Go.Proofs.Ytdhojpjimglijaa
open Go.RowKit Go.Lib Go.Sort
set_option linter.unusedVariables false
theorem addAll_len_same {s t : List ByteArray} (h : ∀ x, x ∈ s ↔ x ∈ t) : (addAll [] s).length = (addAll [] t).length :=
  (perm_of_mem (addAll_nodup List.nodup_nil) (addAll_nodup List.nodup_nil) fun x => by rw [mem_addAll, mem_addAll, h]).length_eq
theorem addAll_small {s : List ByteArray} {n B : Nat} (h : s.length = n) (hn : n ≤ B) : (addAll [] s).length ≤ B := by
  have := addAll_le (ss := s) (acc := [])
  simp at this
  omega
theorem len_of_nodup {out acc : List ByteArray} (h : out.Nodup) (h' : acc.Nodup) (hm : ∀ x, x ∈ out ↔ x ∈ acc) : out.length = acc.length := (perm_of_mem h h' hm).length_eq
theorem sizes_of_strs {w : World} {a : Option Addr} {n cap : Nat} {ss : List ByteArray} (h : IsStrs w a n cap ss) : ∀ s ∈ ss, s.size ≤ maxLen := fun s hs => by
  obtain ⟨i, hi, e⟩ := List.getElem_of_mem hs
  exact h.sizes i s (by rw [List.getElem?_eq_getElem hi, e])
end Go.Proofs.Ytdhojpjimglijaa
