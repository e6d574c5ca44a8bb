/- The plain law of merging two ascending lists of strings, and of dropping repeats. -/
import Derived.Test.YtfefapadffmdlaaSortWorld
namespace Go.Proofs.Ytfefapadffmdlaa
open Go.RowKit Go.Lib Go.Sort
set_option linter.unusedVariables false

/-- '<' on strings is the lexical order of their bytes. -/
theorem less_is' (x : List UInt8) : ∀ y : List UInt8, Op.bytesLess x y = ltStr x y := by
  unfold ltStr
  induction x with
  | nil =>
    intro y
    cases y <;> simp [Op.bytesLess]
  | cons a x ih =>
    intro y
    cases y with
    | nil => simp [Op.bytesLess]
    | cons b y =>
      rw [Op.bytesLess, ih y]
      by_cases h1 : a < b <;> by_cases h2 : a = b <;> by_cases h3 : x < y <;> simp [List.cons_lt_cons_iff, h1, h2, h3]
def leB (a b : ByteArray) : Prop := a.data.toList ≤ b.data.toList
theorem leB_refl (a : ByteArray) : leB a a := List.le_refl _
theorem leB_trans {a b c : ByteArray} (h : leB a b) (k : leB b c) : leB a c := List.le_trans h k
theorem leB_anti {a b : ByteArray} (h : leB a b) (k : leB b a) : a = b := WideShapes.bytes_inj (List.le_antisymm h k)
theorem leB_of_not {a b : ByteArray} (h : ltStr b.data.toList a.data.toList = false) : leB a b := by simpa [ltStr, leB, List.not_lt] using h
theorem leB_of_lt {a b : ByteArray} (h : ltStr a.data.toList b.data.toList = true) : leB a b := by
  have h' : a.data.toList < b.data.toList := by simpa [ltStr] using h
  exact List.le_of_lt h'
theorem asc_iff (l : List ByteArray) : Asc l ↔ l.Pairwise leB := by
  constructor
  · exact fun h => asc_pairwise h
  · intro h i j s t hij hi hj
    have hj' : j < l.length := (List.getElem?_eq_some_iff.1 hj).1
    have hi' : i < l.length := by omega
    have h1 := List.pairwise_iff_getElem.1 h i j hi' hj' hij
    rw [List.getElem?_eq_getElem hi'] at hi
    rw [List.getElem?_eq_getElem hj'] at hj
    obtain rfl := Option.some.inj hi
    obtain rfl := Option.some.inj hj
    simpa [ltStr, leB, List.not_lt] using h1

/-- out: the first i of l and the first j of r, merged. -/
structure Mrg (l r : List ByteArray) (i j : Nat) (out : List ByteArray) : Prop where
  il : i ≤ l.length
  jl : j ≤ r.length
  al : Asc l
  ar : Asc r
  perm : out.Perm (l.take i ++ r.take j)
  asc : out.Pairwise leB
  lo : ∀ x ∈ out, ∀ y ∈ l.drop i, leB x y
  ro : ∀ x ∈ out, ∀ y ∈ r.drop j, leB x y
theorem Mrg.start {l r : List ByteArray} (hl : Asc l) (hr : Asc r) : Mrg l r 0 0 [] := ⟨Nat.zero_le _, Nat.zero_le _, hl, hr, by simp, List.Pairwise.nil, fun x hx => by simp at hx, fun x hx => by simp at hx⟩
theorem drop_cons' {l : List ByteArray} {i : Nat} {x : ByteArray} (h : l[i]? = some x) : l.drop i = x :: l.drop (i + 1) := by
  obtain ⟨hi, rfl⟩ := List.getElem?_eq_some_iff.1 h
  exact List.drop_eq_getElem_cons hi
theorem drop_asc {l : List ByteArray} (h : Asc l) (i : Nat) : (l.drop i).Pairwise leB := ((asc_iff l).1 h).sublist (List.drop_sublist i l)
theorem Mrg.left {l r out : List ByteArray} {i j : Nat} {x : ByteArray} (h : Mrg l r i j out) (hx : l[i]? = some x) (hy : ∀ y, r[j]? = some y → leB x y) : Mrg l r (i + 1) j (out ++ [x]) := by
  have hd := drop_cons' hx
  have hi : i < l.length := (List.getElem?_eq_some_iff.1 hx).1
  have hpl := drop_asc h.al i
  rw [hd] at hpl
  have hlx := (List.pairwise_cons.1 hpl).1
  refine ⟨hi, h.jl, h.al, h.ar, ?_, ?_, ?_, ?_⟩
  · rw [List.take_add_one, hx]
    simp only [Option.toList_some, List.append_assoc]
    exact (h.perm.append_right [x]).trans (by rw [List.append_assoc]; exact List.Perm.append_left _ List.perm_append_comm)
  · refine List.pairwise_append.2 ⟨h.asc, by simp, fun a ha b hb => ?_⟩
    simp at hb
    subst hb
    exact h.lo a ha _ (by rw [hd]; simp)
  · intro a ha y hy'
    rcases List.mem_append.1 ha with ha | ha
    · exact h.lo a ha y (by rw [hd]; simp [hy'])
    · simp at ha
      subst ha
      exact hlx y hy'
  · intro a ha y hy'
    rcases List.mem_append.1 ha with ha | ha
    · exact h.ro a ha y hy'
    · simp at ha
      subst ha
      rcases Nat.lt_or_ge j r.length with hj | hj
      · have hrj := List.getElem?_eq_getElem hj
        have hpr := drop_asc h.ar j
        rw [drop_cons' hrj] at hpr hy'
        have h1 := hy _ hrj
        rcases List.mem_cons.1 hy' with e | e
        · rw [e]; exact h1
        · exact leB_trans h1 ((List.pairwise_cons.1 hpr).1 y e)
      · rw [List.drop_of_length_le hj] at hy'
        simp at hy'
theorem Mrg.swap {l r out : List ByteArray} {i j : Nat} (h : Mrg l r i j out) : Mrg r l j i out := ⟨h.jl, h.il, h.ar, h.al, h.perm.trans List.perm_append_comm, h.asc, h.ro, h.lo⟩
theorem Mrg.right {l r out : List ByteArray} {i j : Nat} {x : ByteArray} (h : Mrg l r i j out) (hx : r[j]? = some x) (hy : ∀ y, l[i]? = some y → leB x y) : Mrg l r i (j + 1) (out ++ [x]) := (h.swap.left hx hy).swap
theorem Mrg.len {l r out : List ByteArray} {i j : Nat} (h : Mrg l r i j out) : out.length = i + j := by
  have := h.perm.length_eq
  have h1 := h.il
  have h2 := h.jl
  simp only [List.length_append, List.length_take] at this
  omega
theorem Mrg.fin {l r out : List ByteArray} (h : Mrg l r l.length r.length out) : out.Perm (l ++ r) ∧ Asc out := by
  refine ⟨?_, (asc_iff _).2 h.asc⟩
  have := h.perm
  rwa [List.take_length, List.take_length] at this

/-! ### repeats dropped -/
/-- out: the first k of l, each string once. -/
structure Ded (l : List ByteArray) (k : Nat) (out : List ByteArray) : Prop where
  al : Asc l
  mem : ∀ x, x ∈ out ↔ x ∈ l.take k
  asc : out.Pairwise leB
  nodup : out.Nodup
  len : out.length ≤ k
theorem Ded.start {l : List ByteArray} (h : Asc l) : Ded l 0 [] := ⟨h, by simp, List.Pairwise.nil, List.nodup_nil, Nat.le_refl _⟩
theorem asc_take_le {l : List ByteArray} (h : Asc l) {k : Nat} {x : ByteArray} (hx : l[k]? = some x) : ∀ a ∈ l.take k, leB a x := by
  intro a ha
  obtain ⟨i, hi, e⟩ := List.getElem_of_mem ha
  have hik : i < k := by simp at hi; omega
  have hia : l[i]? = some a := by
    rw [← e, List.getElem_take]
    exact List.getElem?_eq_getElem _
  exact leB_of_not (h i k a x hik hia hx)
theorem Ded.keep {l out : List ByteArray} {k : Nat} {x : ByteArray} (h : Ded l k out) (hx : l[k]? = some x) (hne : ∀ p, k = p + 1 → ∀ y, l[p]? = some y → y ≠ x) : Ded l (k + 1) (out ++ [x]) := by
  have hle := asc_take_le h.al hx
  have hno : x ∉ l.take k := by
    intro hin
    cases k with
    | zero => simp at hin
    | succ p =>
      have hp : p < l.length := by have := (List.getElem?_eq_some_iff.1 hx).1; omega
      have hlp := List.getElem?_eq_getElem hp
      rw [List.take_add_one, hlp] at hin
      rcases List.mem_append.1 hin with hin | hin
      · have h1 := asc_take_le h.al hlp x hin
        have h2 := hle l[p] (by rw [take_snoc hlp]; exact List.mem_append.2 (Or.inr (List.mem_singleton.2 rfl)))
        exact hne p rfl _ hlp (leB_anti h2 h1)
      · simp at hin
        exact hne p rfl _ hlp hin.symm
  refine ⟨h.al, fun y => ?_, ?_, ?_, by simp; exact h.len⟩
  · rw [List.take_add_one, hx]
    simp [h.mem]
  · refine List.pairwise_append.2 ⟨h.asc, by simp, fun a ha b hb => ?_⟩
    simp at hb
    subst hb
    exact hle a ((h.mem a).1 ha)
  · refine List.nodup_append.2 ⟨h.nodup, by simp, fun a ha b hb => ?_⟩
    simp at hb
    subst hb
    exact fun e => hno ((h.mem _).1 (e ▸ ha))
theorem Ded.skip {l out : List ByteArray} {p : Nat} {x : ByteArray} (h : Ded l (p + 1) out) (hx : l[p + 1]? = some x) (hy : l[p]? = some x) : Ded l (p + 1 + 1) out := by
  refine ⟨h.al, fun y => ?_, h.asc, h.nodup, by have := h.len; omega⟩
  rw [List.take_add_one, hx, h.mem]
  simp
  intro e
  subst e
  rw [List.take_add_one, hy]
  simp
theorem Ded.fin {l out : List ByteArray} {k : Nat} (h : Ded l k out) (hk : l.length ≤ k) : Asc out ∧ out.Nodup ∧ ∀ x, x ∈ out ↔ x ∈ l := by
  refine ⟨(asc_iff _).2 h.asc, h.nodup, fun x => ?_⟩
  rw [h.mem, List.take_of_length_le hk]
/-- Ascending lists without repeats that hold the same are one list. -/
theorem asc_same {l l' : List ByteArray} (h : Asc l) (h' : Asc l') (hn : l.Nodup) (hn' : l'.Nodup) (hm : ∀ x, x ∈ l ↔ x ∈ l') : l = l' := asc_unique h h' (perm_of_mem hn hn' hm)
end Go.Proofs.Ytfefapadffmdlaa
