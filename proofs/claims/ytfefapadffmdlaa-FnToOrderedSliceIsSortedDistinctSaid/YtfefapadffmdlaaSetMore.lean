/- More of the plain law of sets: sizes and order of sets that hold the same. -/
import Derived.Test.YtfefapadffmdlaaMerge
namespace Go.Proofs.Ytfefapadffmdlaa
open Go.RowKit Go.Lib Go.Sort
set_option linter.unusedVariables false
theorem addAll_len_same {s t : List ByteArray} (h : ∀ x, x ∈ s ↔ x ∈ t) : (addAll [] s).length = (addAll [] t).length :=
  (perm_of_mem (addAll_nodup List.nodup_nil) (addAll_nodup List.nodup_nil) fun x => by rw [mem_addAll, mem_addAll, h]).length_eq
theorem addAll_small {s : List ByteArray} {n B : Nat} (h : s.length = n) (hn : n ≤ B) : (addAll [] s).length ≤ B := by
  have := addAll_le (ss := s) (acc := [])
  simp at this
  omega
theorem len_of_nodup {out acc : List ByteArray} (h : out.Nodup) (h' : acc.Nodup) (hm : ∀ x, x ∈ out ↔ x ∈ acc) : out.length = acc.length := (perm_of_mem h h' hm).length_eq
theorem sizes_of_strs {w : World} {a : Option Addr} {n cap : Nat} {ss : List ByteArray} (h : IsStrs w a n cap ss) : ∀ s ∈ ss, s.size ≤ maxLen := fun s hs => by
  obtain ⟨i, hi, e⟩ := List.getElem_of_mem hs
  exact h.sizes i s (by rw [List.getElem?_eq_getElem hi, e])
theorem asc_strict {l : List ByteArray} (h : Asc l) (hn : l.Nodup) {i : Nat} {s t : ByteArray} (hs : l[i]? = some s) (ht : l[i + 1]? = some t) : Sort.ltStr s.data.toList t.data.toList = true := by
  have h1 := h i (i + 1) s t (Nat.lt_succ_self i) hs ht
  have hi : i + 1 < l.length := (List.getElem?_eq_some_iff.1 ht).1
  have hne : s ≠ t := fun e => by
    subst e
    have hp := List.pairwise_iff_getElem.1 hn i (i + 1) (by omega) hi (Nat.lt_succ_self i)
    rw [List.getElem?_eq_getElem (by omega)] at hs
    rw [List.getElem?_eq_getElem hi] at ht
    exact hp (Option.some.inj (hs.trans ht.symm))
  simp only [Sort.ltStr, decide_eq_false_iff_not, decide_eq_true_eq, List.not_lt] at h1 ⊢
  by_cases h2 : s.data.toList < t.data.toList
  · exact h2
  · exact absurd (WideShapes.bytes_inj (List.le_antisymm h1 (List.not_lt.1 h2))) hne
end Go.Proofs.Ytfefapadffmdlaa
