/- A set of strings in memory (a map to struct{} of the call's own), as a list without repeats. Over any program. -/
import Derived.Test.YtfefapadffmdlaaCommon
import Derived.Maps.OwnSet
import Derived.Maps.Own
import Derived.Sort.KeysCollected
import Derived.WideMake
namespace Go.Proofs.Ytfefapadffmdlaa
open Go.ChangeShapes Go.WideShapes Go.ChangeAt Go.RowKit Go.Maps

def litOf (s : ByteArray) : Lit := .string s.data.toList
theorem litOf_inj {a b : ByteArray} (h : litOf a = litOf b) : a = b := bytes_inj (by simpa [litOf] using h)
theorem litOf_key (s : ByteArray) : WideAt.IsKeyLit (litOf s) := by simp [litOf, WideAt.IsKeyLit]

/-- Block b of w is a set of strings: just those of acc. -/
structure IsSet (P : Program) (K : TypeId) (w : World) (b : Nat) (acc : List ByteArray) : Prop where
  nodup : acc.Nodup
  own : ∃ D : DataW Unit, w.ownsMap P K (unitElem (H := Unit)) b acc.length D ∧ (∀ s, Maps.has D (litOf s) = decide (s ∈ acc)) ∧ Maps.size D = acc.length

def addS (acc : List ByteArray) (s : ByteArray) : List ByteArray := if s ∈ acc then acc else acc ++ [s]

/-- The list without s. -/
def remS (acc : List ByteArray) (s : ByteArray) : List ByteArray := acc.filter (fun x => decide (x ≠ s))
theorem mem_remS {acc : List ByteArray} {s x : ByteArray} : x ∈ remS acc s ↔ x ∈ acc ∧ x ≠ s := by simp [remS]
theorem remS_none {acc : List ByteArray} {s : ByteArray} (h : s ∉ acc) : remS acc s = acc := List.filter_eq_self.2 fun x hx => by simp; exact fun e => h (e ▸ hx)
theorem length_remS {acc : List ByteArray} {s : ByteArray} (hn : acc.Nodup) (h : s ∈ acc) : (remS acc s).length + 1 = acc.length := by
  have : remS acc s = acc.erase s := by
    rw [hn.erase_eq_filter]
    exact List.filter_congr fun x _ => by by_cases hx : x = s <;> simp [hx]
  rw [this, List.length_erase_of_mem h]
  have := List.length_pos_of_mem h
  omega
theorem length_remS_le (acc : List ByteArray) (s : ByteArray) : (remS acc s).length ≤ acc.length := List.length_filter_le _ _

section
variable {P : Program} {K : TypeId} {w w' : World} {b : Nat} {acc : List ByteArray}
theorem grown_of_below (hb : Below w.heap.size w w') (row : Option Nat) : w.grownBy w' row := ⟨hb.os, hb.tape, hb.output, hb.size, fun k hk _ => hb.block k hk⟩
theorem grown_of_wrote {g : Nat} (hw : Wrote g w w') : w.grownBy w' (some g) := ⟨hw.os, hw.tape, hw.output, by rw [hw.size]; exact Nat.le_refl _, fun k _ hne => hw.block k (fun e => hne (by rw [e]))⟩
theorem isSet_made (P : Program) (K : TypeId) (w : World) : IsSet P K (w.alloc (.map #[] 0)) w.heap.size [] := ⟨List.nodup_nil, .map [], World.ownsMap_made _ _ _ _, fun s => by simp [Maps.has], rfl⟩
theorem IsSet.kept {row : Option Nat} (h : IsSet P K w b acc) (hg : w.grownBy w' row) (hne : some b ≠ row) : IsSet P K w' b acc := by
  obtain ⟨hn, D, h1, h2, h3⟩ := h
  exact ⟨hn, D, h1.kept hg hne, h2, h3⟩
theorem IsSet.below (h : IsSet P K w b acc) (hb : Below w.heap.size w w') : IsSet P K w' b acc := h.kept (grown_of_below hb none) (by simp)
theorem IsSet.drewN (h : IsSet P K w b acc) (n : Nat) : IsSet P K (w.drewN n) b acc := h.below (below_drewN (Below.refl _ _) n)
theorem IsSet.lt (h : IsSet P K w b acc) : b < w.heap.size := by
  obtain ⟨_, D, h1, _⟩ := h
  exact h1.lt
theorem IsSet.len_ {t e : TypeId} (h : IsSet P K w b acc) (ht : P.underlying t = some (.map K e)) (ty : TypeId) : (Builtin.len_ #[t] ty #[.map (some b)]).run P w = .ok (.int .i64 (acc.length : Int)) w := by
  obtain ⟨_, D, h1, _, h3⟩ := h
  rw [h1.len ht ty, h3]
theorem isSet_put {D : DataW Unit} {s : ByteArray} {w0 : World} {n0 : Nat} (law : Keyed P K) (hn : acc.Nodup) (hD : w0.ownsMap P K (unitElem (H := Unit)) b n0 D) (hhas : ∀ s, Maps.has D (litOf s) = decide (s ∈ acc)) (hsz : Maps.size D = acc.length) (hin : s ∉ acc)
    (h1 : w'.ownsMap P K (unitElem (H := Unit)) b (acc.length + 1) (D.put (litOf s) (.agg []))) : IsSet P K w' b (acc ++ [s]) := by
  refine ⟨?_, _, by simpa using h1, fun t => ?_, ?_⟩
  · refine List.nodup_append.2 ⟨hn, by simp, fun x hx y hy => ?_⟩
    simp at hy
    subst hy
    exact fun e => hin (e ▸ hx)
  · by_cases hts : t = s
    · subst hts
      rw [has_put_same hD.isMap (litOf_key _)]
      simp
    · rw [has_put_other (fun e => hts (litOf_inj e)), hhas]
      simp [hts]
  · rw [size_put (hD.tidy law), hhas]
    simp [hin, hsz]
theorem isSet_shrink {D : DataW Unit} {R : Value → Option (DataW Unit × List MemPlace)} {n0 : Nat} (h : w.ownsMap P K R b n0 D) : w.ownsMap P K R b (Maps.size D) D := by
  obtain ⟨es, clock, h1, F, _, rfl⟩ := h
  exact ⟨es, clock, h1, F, by rw [size_eq, length_read]; exact Nat.le_refl _, rfl⟩
theorem isSet_del {D : DataW Unit} {s : ByteArray} {w0 : World} {n0 : Nat} (law : Keyed P K) (hn : acc.Nodup) (hD : w0.ownsMap P K (unitElem (H := Unit)) b n0 D) (hhas : ∀ s, Maps.has D (litOf s) = decide (s ∈ acc)) (hsz : Maps.size D = acc.length)
    (h1 : w'.ownsMap P K (unitElem (H := Unit)) b n0 (D.del (litOf s))) : IsSet P K w' b (remS acc s) := by
  have h3 : Maps.size (D.del (litOf s)) = (remS acc s).length := by
    have h2 := size_del (k := litOf s) (hD.tidy law)
    rw [hhas, hsz] at h2
    by_cases hin : s ∈ acc
    · have h3 := length_remS hn hin
      simp [hin] at h2
      omega
    · simp [hin] at h2
      rw [remS_none hin]
      omega
  refine ⟨hn.filter _, _, ?_, fun t => ?_, h3⟩
  · rw [← h3]
    exact isSet_shrink h1
  · by_cases hts : t = s
    · subst hts
      rw [has_del_same]
      simp [mem_remS]
    · rw [has_del_other (fun e => hts (litOf_inj e)), hhas]
      simp [mem_remS, hts]
end

theorem below_grown {a w w' : World} {b : Nat} (h : Below a.heap.size a w) (hg : w.grownBy w' (some b)) (hb : a.heap.size ≤ b) : Below a.heap.size a w' :=
  ⟨hg.os.trans h.os, hg.tape.trans h.tape, hg.output.trans h.output, Nat.le_trans h.size hg.size, fun k hk => (hg.block k (Nat.lt_of_lt_of_le hk h.size) (by simp; omega)).trans (h.block k hk)⟩

/-! ### 'len(set)' and '_, ok := set[k]' at the operation -/
section
variable {P : Program} {ops : Array Oper} {Q : Exit → Act → World → Prop} {rest : List Oper} {o : Oper} {a : Act} {w : World}
theorem wpList_len_set (hg : o.guard = none) (m : Operand) (t : TypeId) (hop : o.op = Op.call { callee := Callee.builtin Builtin.len, args := #[m], argTypes := #[t] })
    (k e : TypeId) (ht : P.underlying t = some (.map k e)) (b : Nat) (acc : List ByteArray) (hm : a.eval m = .map (some b)) (h : IsSet P k w b acc)
    (hK : wpList P ops Q rest (a.put o.dst (.int .i64 (acc.length : Int))) w) : wpList P ops Q (o :: rest) a w := by
  obtain ⟨_, D, h1, _, h3⟩ := h
  refine wpList_len_own _ hg m t hop k e ht _ b _ D hm h1 ?_
  rw [h3]
  exact hK
theorem wpList_lookup_set (hg : o.guard = none) (m x : Operand) (t : TypeId) (hop : o.op = Op.lookup t m x true)
    (k e : TypeId) (K : Keyed P k) (ht : P.underlying t = some (.map k e)) (hz : (zeroValue e).run P w = .ok (.agg #[]) w) (b : Nat) (acc : List ByteArray)
    (hm : a.eval m = .map (some b)) (h : IsSet P k w b acc) (s : ByteArray) (hx : a.eval x = .string s) (hkey : keyOf P k (.string s) = some (litOf s))
    (hK : wpList P ops Q rest (a.put o.dst (.tuple #[.agg #[], .bool (decide (s ∈ acc))])) w) : wpList P ops Q (o :: rest) a w := by
  obtain ⟨_, D, h1, h2, h3⟩ := h
  refine wpList_lookup_own_unit _ hg m x t hop k e K ht hz b _ D hm h1 _ _ hx hkey ?_
  rw [h2]
  exact hK
theorem isSet_add {k : TypeId} {b n0 : Nat} {acc : List ByteArray} {w0 w' : World} {D : DataW Unit} {s : ByteArray} (law : Keyed P k) (hn : acc.Nodup) (hD : w0.ownsMap P k (unitElem (H := Unit)) b n0 D) (hhas : ∀ s, Maps.has D (litOf s) = decide (s ∈ acc)) (hsz : Maps.size D = acc.length)
    (h1 : w'.ownsMap P k (unitElem (H := Unit)) b (n0 + 1) (D.put (litOf s) (.agg []))) : IsSet P k w' b (addS acc s) := by
  have hsz2 : Maps.size (D.put (litOf s) (.agg [])) = (addS acc s).length := by
    rw [size_put (hD.tidy law), hhas]
    unfold addS
    by_cases hin : s ∈ acc <;> simp [hin, hsz]
  refine ⟨?_, _, ?_, fun t => ?_, hsz2⟩
  · unfold addS
    split
    · exact hn
    · rename_i hin
      refine List.nodup_append.2 ⟨hn, by simp, fun x hx y hy => ?_⟩
      simp at hy
      subst hy
      exact fun e => hin (e ▸ hx)
  · rw [← hsz2]
    exact isSet_shrink h1
  · by_cases hts : t = s
    · subst hts
      rw [has_put_same hD.isMap (litOf_key _)]
      unfold addS
      split <;> simp [*]
    · rw [has_put_other (fun e => hts (litOf_inj e)), hhas]
      unfold addS
      split <;> simp [hts]
theorem wpList_mapUpdate_set (hg : o.guard = none) (m x v : Operand) (t : TypeId) (hop : o.op = Op.mapUpdate t m x v)
    (k e : TypeId) (K : Keyed P k) (ht : P.underlying t = some (.map k e)) (b : Nat) (acc : List ByteArray)
    (hm : a.eval m = .map (some b)) (h : IsSet P k w b acc) (hn : acc.length < maxLen) (s : ByteArray) (hx : a.eval x = .string s) (hv : a.eval v = .agg #[]) (hkey : keyOf P k (.string s) = some (litOf s))
    (hK : ∀ w', IsSet P k w' b (addS acc s) → w.grownBy w' (some b) → wpList P ops Q rest (a.put o.dst undef) w') : wpList P ops Q (o :: rest) a w := by
  obtain ⟨h0, D, h1, h2, h3⟩ := h
  refine wpList_mapUpdate_own _ hg m x v t hop k e K ht _ b _ D hm h1 hn _ _ _ hx hv hkey _ [] unitElem_mk ?_
  intro w' h4 h5
  exact hK w' (isSet_add K h0 h1 h2 h3 h4) h5
end

/-! ### the plain law of adding -/
theorem addS_nodup {acc : List ByteArray} {s : ByteArray} (h : acc.Nodup) : (addS acc s).Nodup := by
  unfold addS
  split
  · exact h
  · rename_i hin
    refine List.nodup_append.2 ⟨h, by simp, fun x hx y hy => ?_⟩
    simp at hy
    subst hy
    exact fun e => hin (e ▸ hx)
theorem mem_addS {acc : List ByteArray} {s x : ByteArray} : x ∈ addS acc s ↔ x ∈ acc ∨ x = s := by
  unfold addS
  split
  · rename_i hin
    exact ⟨Or.inl, fun h => h.elim id (fun e => e ▸ hin)⟩
  · simp
theorem length_addS (acc : List ByteArray) (s : ByteArray) : (addS acc s).length = if s ∈ acc then acc.length else acc.length + 1 := by
  unfold addS
  split <;> simp
theorem length_addS_le (acc : List ByteArray) (s : ByteArray) : (addS acc s).length ≤ acc.length + 1 := by rw [length_addS]; split <;> omega
def addAll (acc : List ByteArray) (ss : List ByteArray) : List ByteArray := ss.foldl addS acc
theorem addAll_nil (acc : List ByteArray) : addAll acc [] = acc := rfl
theorem addAll_snoc (acc ss : List ByteArray) (s : ByteArray) : addAll acc (ss ++ [s]) = addS (addAll acc ss) s := by simp [addAll, List.foldl_append]
theorem addAll_append (acc ss tt : List ByteArray) : addAll acc (ss ++ tt) = addAll (addAll acc ss) tt := by simp [addAll, List.foldl_append]
theorem mem_addAll {ss : List ByteArray} : ∀ {acc : List ByteArray} {x : ByteArray}, x ∈ addAll acc ss ↔ x ∈ acc ∨ x ∈ ss := by
  induction ss with
  | nil => intro acc x; simp [addAll]
  | cons s r ih =>
    intro acc x
    show x ∈ addAll (addS acc s) r ↔ _
    rw [ih, mem_addS, List.mem_cons, or_assoc]
theorem addAll_nodup {ss : List ByteArray} : ∀ {acc : List ByteArray}, acc.Nodup → (addAll acc ss).Nodup := by
  induction ss with
  | nil => intro acc h; exact h
  | cons s r ih => intro acc h; exact ih (addS_nodup h)
theorem addAll_le {ss : List ByteArray} : ∀ {acc : List ByteArray}, (addAll acc ss).length ≤ acc.length + ss.length := by
  induction ss with
  | nil => intro acc; simp [addAll]
  | cons s r ih =>
    intro acc
    have h1 := ih (acc := addS acc s)
    have h2 := length_addS_le acc s
    show (addAll (addS acc s) r).length ≤ _
    rw [List.length_cons]
    omega
theorem take_snoc {ss : List ByteArray} {k : Nat} {s : ByteArray} (h : ss[k]? = some s) : ss.take (k + 1) = ss.take k ++ [s] := by
  rw [List.take_add_one, h]; rfl
theorem addAll_take {acc ss : List ByteArray} {k : Nat} {s : ByteArray} (h : ss[k]? = some s) : addAll acc (ss.take (k + 1)) = addS (addAll acc (ss.take k)) s := by rw [take_snoc h, addAll_snoc]
/-- Lists without repeats that hold the same are permutations of one another. -/
theorem perm_of_mem {l l' : List ByteArray} (h : l.Nodup) (h' : l'.Nodup) (hm : ∀ x, x ∈ l ↔ x ∈ l') : l.Perm l' := (List.perm_ext_iff_of_nodup h h').2 hm
end Go.Proofs.Ytfefapadffmdlaa
