/- The plain law of a merge sort that goes by widths. -/
import Derived.Test.YtfefapadffmdlaaMerge
namespace Go.Proofs.Ytfefapadffmdlaa
open Go.RowKit Go.Lib Go.Sort
set_option linter.unusedVariables false

theorem asc_small {ss : List ByteArray} (h : ss.length ≤ 1) : Asc ss := by
  intro i j s t hij hi hj
  have := (List.getElem?_eq_some_iff.1 hj).1
  omega
/-- Each piece of W strings is in order. -/
def Chunks (W : Nat) (l : List ByteArray) : Prop := ∀ p, Asc ((l.drop (p * W)).take W)
theorem Chunks.one (l : List ByteArray) : Chunks 1 l := fun p => asc_small (List.length_take_le _ _)
theorem Chunks.all {W : Nat} {l : List ByteArray} (h : Chunks W l) (hl : l.length ≤ W) : Asc l := by
  have := h 0
  rwa [Nat.zero_mul, List.drop_zero, List.take_of_length_le hl] at this
theorem Chunks.nil (W : Nat) : Chunks W [] := fun p => by simp; exact asc_small (by simp)
theorem Chunks.app {W q : Nat} {l c : List ByteArray} (h : Chunks W l) (hl : l.length = q * W) (hc : Asc c) (hcl : c.length ≤ W) : Chunks W (l ++ c) := by
  intro p
  rcases Nat.lt_trichotomy p q with hp | hp | hp
  · have h1 : (p + 1) * W ≤ q * W := Nat.mul_le_mul_right _ hp
    rw [Nat.add_mul, Nat.one_mul] at h1
    rw [List.drop_append_of_le_length (by omega), List.take_append_of_le_length (by simp; omega)]
    exact h p
  · subst hp
    rw [← hl, List.drop_left, List.take_of_length_le hcl]
    exact hc
  · have h1 : (q + 1) * W ≤ p * W := Nat.mul_le_mul_right _ hp
    rw [Nat.add_mul, Nat.one_mul] at h1
    rw [List.drop_eq_nil_of_le (by simp; omega)]
    exact asc_small (by simp)

/-- One round of merging: the pieces at lo and lo + W of A, merged behind pre. -/
structure Round (W lo : Nat) (A pre : List ByteArray) : Prop where
  len : pre.length = min lo A.length
  perm : pre.Perm (A.take lo)
  ch : Chunks (2 * W) pre
  mul : ∃ q, lo = q * (2 * W)
theorem Round.start (W : Nat) (A : List ByteArray) : Round W 0 A [] := ⟨by simp, by simp, Chunks.nil _, 0, by simp⟩
theorem Round.next {W lo : Nat} {A pre out : List ByteArray} (h : Round W lo A pre) (hlo : lo < A.length) (hp : out.Perm ((A.drop lo).take W ++ (A.drop (lo + W)).take W)) (ha : Asc out) : Round W (lo + 2 * W) A (pre ++ out) := by
  obtain ⟨q, hq⟩ := h.mul
  have hlen := h.len
  have hol := hp.length_eq
  simp only [List.length_append, List.length_take, List.length_drop] at hol
  refine ⟨by simp; omega, ?_, h.ch.app (q := q) (by omega) ha (by omega), q + 1, by rw [hq, Nat.add_mul, Nat.one_mul]⟩
  have h1 : A.take (lo + 2 * W) = A.take lo ++ ((A.drop lo).take W ++ (A.drop (lo + W)).take W) := by
    rw [show lo + 2 * W = lo + (W + W) by omega, List.take_add, List.take_add, List.drop_drop]
  rw [h1]
  exact h.perm.append hp
theorem Round.fin {W lo : Nat} {A pre : List ByteArray} (h : Round W lo A pre) (hlo : A.length ≤ lo) : pre.Perm A ∧ Chunks (2 * W) pre ∧ pre.length = A.length := by
  have h1 := h.perm
  rw [List.take_of_length_le hlo] at h1
  exact ⟨h1, h.ch, h1.length_eq⟩
theorem Round.left {W lo : Nat} {A pre : List ByteArray} (h : Round W lo A pre) (hA : Chunks W A) : Asc ((A.drop lo).take W) ∧ Asc ((A.drop (lo + W)).take W) := by
  obtain ⟨q, hq⟩ := h.mul
  have h1 := hA (2 * q)
  have h2 := hA (2 * q + 1)
  have e1 : 2 * q * W = lo := by rw [hq, Nat.mul_comm 2 q, Nat.mul_assoc]
  have e2 : (2 * q + 1) * W = lo + W := by rw [Nat.add_mul, e1, Nat.one_mul]
  rw [e1] at h1
  rw [e2] at h2
  exact ⟨h1, h2⟩
theorem drop_take_get {A : List ByteArray} {lo W i : Nat} {x : ByteArray} (h : A[lo + i]? = some x) (hi : i < W) : ((A.drop lo).take W)[i]? = some x := by
  rw [List.getElem?_take, if_pos hi, List.getElem?_drop]
  exact h
theorem strA_set {pre out tail : List ByteArray} {x y : ByteArray} {k : Nat} (hk : k = pre.length + out.length) : (strA (pre ++ out ++ y :: tail)).setIfInBounds k (.string x) = strA (pre ++ (out ++ [x]) ++ tail) := by
  subst hk
  unfold strA
  rw [List.setIfInBounds_toArray]
  congr 1
  rw [← List.append_assoc pre out [x], List.append_assoc (pre ++ out) [x] tail, List.map_append, List.map_append (l₁ := pre ++ out), List.set_append_right _ _ (by simp)]
  simp
end Go.Proofs.Ytfefapadffmdlaa
