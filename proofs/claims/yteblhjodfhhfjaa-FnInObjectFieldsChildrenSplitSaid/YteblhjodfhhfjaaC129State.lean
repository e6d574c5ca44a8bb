/- What zzBuildFields keeps while it builds: the fields and two rows of nodes; its stores and appends. Folder 129. -/
import Derived.Test.YteblhjodfhhfjaaC129Kids
namespace Go.Proofs.Yteblhjodfhhfjaa
open Go.ChangeShapes Go.WideShapes Go.ChangeAt Go.RowKit
set_option linter.unusedVariables false

theorem FldOk.put {f : List Value} (h : FldOk f) (j : Nat) (v : Value) (h1 : v.oneCell' = true) (h0 : j = 0 → ∃ a, v = .pointer (some a)) (h2 : j = 7 ∨ j = 8 → ∃ a, v = .iface 59 (.pointer (some a))) : FldOk (f.set j v) := by
  have hl := h.len
  have cell : ∀ i, i < 18 → (i ≠ j → (f.set j v)[i]? = f[i]?) ∧ (i = j → (f.set j v)[i]? = some v) := by
    intro i hi
    refine ⟨fun hne => ?_, fun he => ?_⟩
    · rw [List.getElem?_set_ne (fun e => hne e.symm)]
    · subst he
      rw [List.getElem?_set_self (by omega)]
  refine ⟨by simp [hl], ?_, ?_, ?_, fun u hu => ?_⟩
  · by_cases e : 0 = j
    · obtain ⟨a, ha⟩ := h0 e.symm
      exact .inr ⟨a, by rw [(cell 0 (by omega)).2 e, ha]⟩
    · rw [(cell 0 (by omega)).1 e]; exact h.m
  · by_cases e : 7 = j
    · exact ⟨v, (cell 7 (by omega)).2 e, .inr (h2 (.inl e.symm))⟩
    · rw [(cell 7 (by omega)).1 e]; exact h.e2
  · by_cases e : 8 = j
    · exact ⟨v, (cell 8 (by omega)).2 e, .inr (h2 (.inr e.symm))⟩
    · rw [(cell 8 (by omega)).1 e]; exact h.e3
  · rcases List.mem_or_eq_of_mem_set hu with hh | rfl
    · exact h.one u hh
    · exact h1

theorem Flds.put {W : World} {b k : Nat} {fs : List (List Value)} (h : Flds W b fs) {f : List Value} (hf : fs[k]? = some f) (j : Nat) (hj : j < 18) (v : Value) (hv : FldOk (f.set j v)) : Flds (W.setCell ⟨b, k * 18 + j, none⟩ v) b (fs.set k (f.set j v)) := by
  refine ⟨?_, fun x hx => ?_⟩
  · have h1 := h.blk.set_ (k * 18 + j) v
    rw [List.setIfInBounds_toArray, flat_set (fun x hx => (h.ok x hx).len) hf j hj v] at h1
    exact h1
  · rcases List.mem_or_eq_of_mem_set hx with hh | rfl
    · exact h.ok x hh
    · exact hv
theorem Nds.far {W : World} {base g cp : Nat} {l : List Value} (h : Nds W base g cp l) {p : Addr} (hp : g ≠ p.block) (u : Value) : Nds (W.setCell p u) base g cp l := by
  obtain ⟨r, h1, h2⟩ := h.blk
  exact ⟨⟨r, h1.far hp u, h2⟩, h.max, h.base, h.nodes⟩

/-- The rows of nodes at g1 and g2, of lengths m1 and m2; n fields at b. -/
structure BSt (w : World) (n b g1 c1 m1 g2 c2 m2 : Nat) (W : World) : Prop where
  k1 : ∃ l, KSt w g1 c1 m1 l W
  k2 : ∃ l, KSt w g2 c2 m2 l W
  f : ∃ fs, Flds W b fs ∧ fs.length = n
  ne1 : g1 ≠ b
  ne2 : g2 ≠ b
  ne : g1 ≠ g2
  wb : w.heap.size ≤ b
section
variable {w W W' : World} {n b g1 c1 m1 g2 c2 m2 k j : Nat}
theorem BSt.bel (h : BSt w n b g1 c1 m1 g2 c2 m2 W) : Below w.heap.size w W := by obtain ⟨l, h1⟩ := h.k1; exact h1.bel
theorem BSt.keep (h : BSt w n b g1 c1 m1 g2 c2 m2 W) (hb : Below W.heap.size W W') : BSt w n b g1 c1 m1 g2 c2 m2 W' := by
  obtain ⟨l, h1⟩ := h.k1
  obtain ⟨l', h2⟩ := h.k2
  obtain ⟨fs, h3, h4⟩ := h.f
  exact ⟨⟨l, h1.keep hb⟩, ⟨l', h2.keep hb⟩, ⟨fs, h3.below hb, h4⟩, h.ne1, h.ne2, h.ne, h.wb⟩
theorem BSt.put (h : BSt w n b g1 c1 m1 g2 c2 m2 W) (hk : k < n) (hj : j < 18) (v : Value) (h1 : v.oneCell' = true) (h0 : j = 0 → ∃ a, v = .pointer (some a)) (h2 : j = 7 ∨ j = 8 → ∃ a, v = .iface 59 (.pointer (some a))) :
    BSt w n b g1 c1 m1 g2 c2 m2 (W.setCell ⟨b, k * 18 + j, none⟩ v) := by
  obtain ⟨l, k1⟩ := h.k1
  obtain ⟨l', k2⟩ := h.k2
  obtain ⟨fs, h3, h4⟩ := h.f
  obtain ⟨f, hf⟩ : ∃ f, fs[k]? = some f := ⟨_, List.getElem?_eq_getElem (by omega)⟩
  have hfo := h3.ok f (List.mem_of_getElem? hf)
  exact ⟨⟨l, k1.len, k1.nds.far h.ne1 v, below_set k1.bel h.wb v⟩, ⟨l', k2.len, k2.nds.far h.ne2 v, below_set k2.bel h.wb v⟩, ⟨_, h3.put hf j hj v (hfo.put j v h1 h0 h2), by simpa using h4⟩, h.ne1, h.ne2, h.ne, h.wb⟩
theorem BSt.cell (h : BSt w n b g1 c1 m1 g2 c2 m2 W) (hk : k < n) (hj : j < 18) : (W.cell? ⟨b, k * 18 + j, none⟩).isSome = true ∧ W.frozen? ⟨b, k * 18 + j, none⟩ = false := by
  obtain ⟨fs, h3, h4⟩ := h.f
  obtain ⟨f, hf⟩ : ∃ f, fs[k]? = some f := ⟨_, List.getElem?_eq_getElem (by omega)⟩
  have hl := (h3.ok f (List.mem_of_getElem? hf)).len
  exact ⟨by rw [h3.cell hf j hj, List.getElem?_eq_getElem (by omega)]; rfl, h3.blk.frozen _⟩
theorem BSt.app1 {o : Obj} {g c : Nat} {l : List Value} {y : Value} (h : BSt w n b g1 c1 m1 g2 c2 m2 W) (hl : KSt w g1 c1 m1 l W) (hN : Nds W' w.heap.size g c (l ++ [y])) (hg : (W.alloc o).grownBy W' (some g1)) (hgg : g = g1 ∨ g = (W.alloc o).heap.size) : BSt w n b g c (m1 + 1) g2 c2 m2 W' := by
  obtain ⟨l', k2⟩ := h.k2
  obtain ⟨fs, h3, h4⟩ := h.f
  have ha : Below W.heap.size W (W.alloc o) := below_alloc (Below.refl _ _) o
  have hb := h3.lt
  have h2 := k2.nds.lt
  have hK := hl.app hN hg
  have hne : ∀ x, x < W.heap.size → g1 ≠ x → g ≠ x := fun x hx hx1 e => by
    rcases hgg with rfl | rfl
    · exact hx1 e
    · simp at e; omega
  refine ⟨⟨_, hK⟩, ⟨l', k2.len, (k2.nds.below ha).grown hg (fun e => h.ne (by injection e with e; exact e.symm)), hK.bel⟩, ⟨fs, ⟨(hg.block b (by simp; omega) (fun e => h.ne1 (by injection e with e; exact e.symm))).trans (h3.blk.below ha hb), h3.ok⟩, h4⟩, hne b hb h.ne1, h.ne2, hne g2 h2 h.ne, h.wb⟩
theorem BSt.swap (h : BSt w n b g1 c1 m1 g2 c2 m2 W) : BSt w n b g2 c2 m2 g1 c1 m1 W := ⟨h.k2, h.k1, h.f, h.ne2, h.ne1, h.ne.symm, h.wb⟩
end
theorem leafv_any (w : World) : Calls Try.prog 10 #[] w fun e w' =>
    ∃ a, e = .returned (.iface 59 (.pointer (some a))) ∧ Below w.heap.size w w' :=
  (leaf_any w).mono fun e w' h => ⟨_, h⟩

section
variable {P : Program} {ops : Array Oper} {Q : Exit → Act → World → Prop} {rst : List Oper} {o : Oper} {a : Act} {w W : World} {n b g1 c1 m1 g2 c2 m2 k j : Nat}
/-- A guard: the next operation is a store. -/
theorem at_store {d : Option Tmp} {x y : Operand} {t t' : TypeId} {p : String} {f : Array Edge} (h : wpList P ops Q (⟨d, .store t' x y, t, p, f, none⟩ :: rst) a w) :
    wpList P ops Q (⟨d, .store t' x y, t, p, f, none⟩ :: rst) a w := h
theorem wpList_put (hg : o.guard = none) (ty : TypeId) (x y : Operand) (ho : o.op = .store ty x y) (hd : o.dst = none) (hi : (P.info? ty).map (·.size) = some 1) (HB : BSt w n b g1 c1 m1 g2 c2 m2 W) (v : Value) (hk : k < n) (hj : j < 18)
    (hx : a.eval x = .pointer (some ⟨b, k * 18 + j, none⟩)) (hy : a.eval y = v) (h1 : v.oneCell' = true) (h0 : j = 0 → ∃ a, v = .pointer (some a)) (h2 : j = 7 ∨ j = 8 → ∃ a, v = .iface 59 (.pointer (some a)))
    (hK : ∀ W', BSt w n b g1 c1 m1 g2 c2 m2 W' → wpList P ops Q rst a W') : wpList P ops Q (o :: rst) a W := by
  obtain ⟨i, hi0, hs⟩ := size_of_info hi
  have hc : v.cells = #[v] := by cases v <;> first | rfl | cases h1
  have hr := run_storeCells_cells (P := P) b (k * 18 + j) [v] 0 W (fun i hi => by
    have : i = 0 := by simpa using hi
    subst this
    exact (HB.cell hk hj).1) (fun i hi => by
    have : i = 0 := by simpa using hi
    subst this
    exact (HB.cell hk hj).2) (fun u hu => by have : u = v := by simpa using hu
                                             rw [this]; exact h1)
  refine wpList_plain hg fun K hK' => ?_
  unfold Oper.wp execOp
  have hr' : (storeCells ⟨b, k * 18 + j, none⟩ [v]).run P W = .ok () (W.setCell ⟨b, k * 18 + j, none⟩ v) := hr
  have hsv : (storeVar ty ⟨b, k * 18 + j, none⟩ v).run P W = .ok () (W.setCell ⟨b, k * 18 + j, none⟩ v) := by
    simp [storeVar, sizeOf, typeInfo, hi0, hs, hc, hr']
  simp only [ho, hx, hy, Instr.storeAt, Instr.sureAddr, Sem.run_bind, Sem.run_pure, Result.andThen_ok, hsv]
  exact hK' _ _ (by rw [hd]; exact hK _ (HB.put hk hj v h1 h0 h2))
theorem wpList_app1 (hg : o.guard = none) (s x : Operand) (t : TypeId) (hop : o.op = Op.call { callee := Callee.builtin Builtin.append, args := #[s, x], argTypes := #[t, t] })
    (ht : P.underlying t = some (.slice 35)) (hi : (P.info? 35).map (fun i => (i.zero, i.size, i.bytes)) = some (some .nilIface, 1, 16)) (y : Value) (HB : BSt w n b g1 c1 m1 g2 c2 m2 W)
    (hy : IsNode y) (c : Nat) (hs : a.eval s = .slice (some ⟨g1, 0, none⟩) m1 c1) (hx : a.eval x = .slice (some ⟨W.heap.size, 0, none⟩) 1 c) (hl : m1 ≤ 1048576)
    (hK : ∀ g' c' W', BSt w n b g' c' (m1 + 1) g2 c2 m2 W' → wpList P ops Q rst (a.put o.dst (.slice (some ⟨g', 0, none⟩) (m1 + 1) c')) W') : wpList P ops Q (o :: rst) a (W.alloc (.cells #[y] 35)) := by
  obtain ⟨l, hl1⟩ := HB.k1
  refine wpList_append_node hg s x t hop ht hi w.heap.size g1 c1 m1 l y hy _ c hl1.len hs (hl1.nds.below (below_alloc (Below.refl _ _) _)) hx ((Blk.new _ _ _).cell 0) hl (by have := HB.bel.size; simp; omega) ?_
  intro g' c' W' hN hg hgg
  exact hK g' c' W' (HB.app1 hl1 hN hg hgg)
theorem wpList_app2 (hg : o.guard = none) (s x : Operand) (t : TypeId) (hop : o.op = Op.call { callee := Callee.builtin Builtin.append, args := #[s, x], argTypes := #[t, t] })
    (ht : P.underlying t = some (.slice 35)) (hi : (P.info? 35).map (fun i => (i.zero, i.size, i.bytes)) = some (some .nilIface, 1, 16)) (y : Value) (HB : BSt w n b g1 c1 m1 g2 c2 m2 W)
    (hy : IsNode y) (c : Nat) (hs : a.eval s = .slice (some ⟨g2, 0, none⟩) m2 c2) (hx : a.eval x = .slice (some ⟨W.heap.size, 0, none⟩) 1 c) (hl : m2 ≤ 1048576)
    (hK : ∀ g' c' W', BSt w n b g1 c1 m1 g' c' (m2 + 1) W' → wpList P ops Q rst (a.put o.dst (.slice (some ⟨g', 0, none⟩) (m2 + 1) c')) W') : wpList P ops Q (o :: rst) a (W.alloc (.cells #[y] 35)) :=
  wpList_app1 hg s x t hop ht hi y HB.swap hy c hs hx hl fun g' c' W' h => hK g' c' W' h.swap
end
end Go.Proofs.Yteblhjodfhhfjaa
