/- A model list of strings in a slice that grows and shrinks; the plain law of its shifting. Over any program. -/
import Derived.Test.YtfefapadffmdlaaApp
import Derived.Laws.AppendOwn
namespace Go.Proofs.Ytfefapadffmdlaa
open Go.ChangeShapes Go.WideShapes Go.ChangeAt Go.RowKit Go.Maps
set_option linter.unusedVariables false

theorem idxOf_mem {x : ByteArray} {ss : List ByteArray} (h : x ∈ ss) : ∃ p : Nat, p < ss.length ∧ ss[p]? = some x ∧ idxOf x ss = (p : Int) := by
  induction ss with
  | nil => simp at h
  | cons s r ih =>
    by_cases hs : s = x
    · exact ⟨0, by simp, by simp [hs], by simp [idxOf, hs]⟩
    · have hr : x ∈ r := by
        rcases List.mem_cons.1 h with e | e
        · exact absurd e.symm hs
        · exact e
      obtain ⟨p, h1, h2, h3⟩ := ih hr
      refine ⟨p + 1, by simp; omega, by simpa using h2, ?_⟩
      unfold idxOf
      rw [if_neg hs, h3, if_neg (by omega)]
      omega
theorem idxOf_none {x : ByteArray} {ss : List ByteArray} (h : x ∉ ss) : idxOf x ss = -1 := by
  have h1 := (idxOf_neg x ss).2 h
  have h2 := (idxOf_bounds x ss).1
  omega
theorem remS_erase : ∀ {acc : List ByteArray} {p : Nat} {s : ByteArray}, acc.Nodup → acc[p]? = some s → remS acc s = acc.eraseIdx p
  | [], p, s, _, h => by simp at h
  | a :: r, 0, s, hn, h => by
    have e : a = s := by simpa using h
    subst e
    have hn' := List.nodup_cons.1 hn
    rw [List.eraseIdx_cons_zero, ← remS_none hn'.1]
    simp [remS]
  | a :: r, p + 1, s, hn, h => by
    have hn' := List.nodup_cons.1 hn
    have h' : r[p]? = some s := by simpa using h
    have hne : a ≠ s := fun e => hn'.1 (e ▸ List.mem_of_getElem? h')
    rw [List.eraseIdx_cons_succ, ← remS_erase hn'.2 h']
    simp [remS, hne]
/-- The list on its way from acc to acc without its entry p: the first t are those of the end. -/
def Sh (acc : List ByteArray) (p t : Nat) : List ByteArray := (acc.eraseIdx p).take t ++ acc.drop t
theorem Sh_start (acc : List ByteArray) (p : Nat) : Sh acc p p = acc := by
  unfold Sh
  have : (acc.eraseIdx p).take p = acc.take p := by
    apply List.ext_getElem?
    intro i
    rw [List.getElem?_take, List.getElem?_take]
    split
    · rw [List.getElem?_eraseIdx, if_pos (by assumption)]
    · rfl
  rw [this, List.take_append_drop]
theorem Sh_len {acc : List ByteArray} {p t : Nat} (hp : p < acc.length) (ht : t < acc.length) : (Sh acc p t).length = acc.length := by
  unfold Sh
  rw [List.length_append, List.length_take, List.length_drop, List.length_eraseIdx, if_pos hp]
  omega
theorem Sh_get {acc : List ByteArray} {p t : Nat} {x : ByteArray} (hp : p ≤ t) (h : acc[t + 1]? = some x) : (Sh acc p t)[t + 1]? = some x := by
  have ht := (List.getElem?_eq_some_iff.1 h).1
  unfold Sh
  have hl : ((acc.eraseIdx p).take t).length = t := by rw [List.length_take, List.length_eraseIdx, if_pos (by omega)]; omega
  rw [List.getElem?_append_right (by omega), hl, List.getElem?_drop, show t + (t + 1 - t) = t + 1 by omega]
  exact h
theorem Sh_step {acc : List ByteArray} {p t : Nat} {x : ByteArray} (hp : p ≤ t) (h : acc[t + 1]? = some x) : (Sh acc p t).set t x = Sh acc p (t + 1) := by
  have ht := (List.getElem?_eq_some_iff.1 h).1
  have hl : ((acc.eraseIdx p).take t).length = t := by rw [List.length_take, List.length_eraseIdx, if_pos (by omega)]; omega
  have he : (acc.eraseIdx p)[t]? = some x := by rw [List.getElem?_eraseIdx, if_neg (by omega)]; exact h
  have hd : acc.drop t = acc[t]'(by omega) :: acc.drop (t + 1) := List.drop_eq_getElem_cons (by omega)
  unfold Sh
  rw [List.set_append_right _ _ (by omega), hl, Nat.sub_self, hd, List.set_cons_zero, List.take_add_one, he]
  simp
theorem Sh_end {acc : List ByteArray} {p t : Nat} (hp : p < acc.length) (ht : t + 1 = acc.length) : ∃ y, Sh acc p t = acc.eraseIdx p ++ [y] := by
  refine ⟨acc[t]'(by omega), ?_⟩
  unfold Sh
  rw [List.take_of_length_le (by rw [List.length_eraseIdx, if_pos hp]; omega), List.drop_eq_getElem_cons (by omega), List.drop_eq_nil_of_le (by omega)]

/-- Block g holds the strings of l, then whatever. -/
structure Row (w : World) (e g cp : Nat) (rest : List Value) (l : List ByteArray) : Prop where
  blk : Blk w g e (l.map Value.string ++ rest).toArray
  cap : cp = l.length + rest.length
  max : cp ≤ maxLen
section
variable {w w' : World} {e g cp : Nat} {rest : List Value} {l : List ByteArray}
theorem Row.strs (h : Row w e g cp rest l) (hsz : ∀ s ∈ l, s.size ≤ maxLen) : IsStrs w (some ⟨g, 0, none⟩) l.length cp l :=
  ⟨rfl, by have := h.cap; omega, h.max, fun k s hs => hsz s (List.mem_of_getElem? hs), (fun h => by cases h), fun _ => ⟨g, 0, rfl, h.blk.lt, fun k s hs => by
    rw [Nat.zero_add, h.blk.cell k, List.getElem?_toArray, List.getElem?_append_left (by rw [List.length_map]; exact (List.getElem?_eq_some_iff.1 hs).1), List.getElem?_map, hs]
    rfl⟩⟩
theorem Row.cell (h : Row w e g cp rest l) {k : Nat} {s : ByteArray} (hs : l[k]? = some s) : w.cell? ⟨g, k, none⟩ = some (.string s) := by
  rw [h.blk.cell k, List.getElem?_toArray, List.getElem?_append_left (by rw [List.length_map]; exact (List.getElem?_eq_some_iff.1 hs).1), List.getElem?_map, hs]
  rfl
theorem Row.set (h : Row w e g cp rest l) {k : Nat} (hk : k < l.length) (x : ByteArray) : Row (w.setCell ⟨g, k, none⟩ (.string x)) e g cp rest (l.set k x) := by
  refine ⟨?_, by rw [List.length_set]; exact h.cap, h.max⟩
  have h1 := h.blk.set_ k (.string x)
  rw [List.setIfInBounds_toArray, List.set_append_left _ _ (by simpa using hk), ← List.map_set] at h1
  exact h1
theorem Row.shrink {y : ByteArray} (h : Row w e g cp rest (l ++ [y])) : Row w e g cp (Value.string y :: rest) l := by
  refine ⟨?_, by have := h.cap; simp at this ⊢; omega, h.max⟩
  have h1 := h.blk
  rw [List.map_append, List.append_assoc] at h1
  exact h1
theorem Row.keep {row : Option Nat} (h : Row w e g cp rest l) (hg : w.grownBy w' row) (hne : some g ≠ row) : Row w' e g cp rest l := ⟨h.blk.grown hg hne, h.cap, h.max⟩
theorem Row.below (h : Row w e g cp rest l) (hb : Below w.heap.size w w') : Row w' e g cp rest l := ⟨h.blk.below hb h.blk.lt, h.cap, h.max⟩
theorem Row.own (h : Row w e g cp rest l) {base : Nat} (hb : base ≤ g) : w.ownsRow base e 1 (.slice (some ⟨g, 0, none⟩) l.length cp) l.length (l.map Value.string) := by
  refine ⟨by simp, Or.inr ⟨g, cp, _, rfl, hb, h.blk, by have := h.cap; omega, h.max, by simp; exact h.cap.symm, ?_⟩⟩
  rw [Nat.mul_one]
  exact List.take_left' (by simp)
theorem row_of_own {base : Nat} {v : Value} (h : w.ownsRow base e 1 v l.length (l.map Value.string)) (hv : v ≠ .slice none 0 0) : ∃ g cp rest, v = .slice (some ⟨g, 0, none⟩) l.length cp ∧ base ≤ g ∧ Row w e g cp rest l := by
  obtain ⟨_, h | ⟨g, cap, cur, rfl, hb, hh, hn, hm, hs, ht⟩⟩ := h
  · exact absurd h.1 hv
  · rw [Nat.mul_one] at hs ht
    refine ⟨g, cap, cur.toList.drop l.length, rfl, hb, ?_, ?_, hm⟩
    · unfold Blk
      rw [hh, ← ht, List.take_append_drop]
    · have h1 : (cur.toList.drop l.length).length = cur.size - l.length := by simp
      omega
end
theorem IsSet.ne_blk {P : Program} {K : TypeId} {w : World} {b g t : Nat} {acc : List ByteArray} {cs : Array Value} (h : IsSet P K w b acc) (hb : Blk w g t cs) : g ≠ b := by
  obtain ⟨_, D, ⟨es, clock, h1, _⟩, _⟩ := h
  intro e
  subst e
  unfold Blk at hb
  rw [hb] at h1
  cases h1

section
variable {P : Program} {ops : Array Oper} {Q : Exit → Act → World → Prop} {rst : List Oper} {o : Oper} {a : Act} {w : World}
theorem wpList_append_row (hg : o.guard = none) (s x : Operand) (t : TypeId) (hop : o.op = Op.call { callee := Callee.builtin Builtin.append, args := #[s, x], argTypes := #[t, t] })
    (e : TypeId) (ht : P.underlying t = some (.slice e)) (hi : (P.info? e).map (fun i => (i.zero, i.size, i.bytes)) = some (some (.string ByteArray.empty), 1, 16))
    (base g cp : Nat) (rest : List Value) (l : List ByteArray) (y : ByteArray) (ad : Addr) (c : Nat) (hs : a.eval s = .slice (some ⟨g, 0, none⟩) l.length cp) (hR : Row w e g cp rest l) (hx : a.eval x = .slice (some ad) 1 c)
    (hc : w.cell? (ad.add 0) = some (.string y)) (hl : l.length ≤ 1048576) (hbg : base ≤ g) (hbase : base ≤ w.heap.size)
    (hK : ∀ g' cp' rest' w', Row w' e g' cp' rest' (l ++ [y]) → base ≤ g' → w.grownBy w' (some g) → wpList P ops Q rst (a.put o.dst (.slice (some ⟨g', 0, none⟩) (l.length + 1) cp')) w') : wpList P ops Q (o :: rst) a w := by
  obtain ⟨i, hi0, hz0, hz1, hz2⟩ := info_parts hi
  refine wpList_append_own w hg s x t hop base e i (.string ByteArray.empty) 1 16 ht hi0 hz0 hz1 hz2 rfl (by decide) _ _ _ hs (hR.own hbg) ad 1 c [.string y] hx rfl
    (fun j u hj => by
      match j, hj with
      | 0, hj => simp at hj; subst hj; exact hc)
    (fun u hu => by simp at hu; subst hu; rfl) (by unfold maxLen; omega) (by omega) hbase ?_
  intro v' w' hown hgr hv
  have hown' : w'.ownsRow base e 1 v' (l ++ [y]).length ((l ++ [y]).map Value.string) := by simpa using hown
  obtain ⟨g', cp', rest', rfl, hb', hR'⟩ := row_of_own hown' (fun hh => by have := (hv.1 hh).2; omega)
  have := hK g' cp' rest' w' hR' hb' hgr
  simpa using this
end
end Go.Proofs.Ytfefapadffmdlaa
