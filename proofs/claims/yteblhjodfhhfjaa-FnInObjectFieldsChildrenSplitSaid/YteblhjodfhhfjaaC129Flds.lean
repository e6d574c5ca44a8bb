/- Rows of object fields in memory: each field 18 cells; the nodes that lie in the object's scope. Folder 129. -/
import Derived.Test.YteblhjodfhhfjaaNodes
import Derived.Deep.MidRow
namespace Go.Proofs.Yteblhjodfhhfjaa
open Go.ChangeShapes Go.WideShapes Go.ChangeAt Go.RowKit
set_option linter.unusedVariables false

/-- A node's cell: nil or a leaf. -/
def NodeCell (v : Value) : Prop := v = .nilIface ∨ ∃ a, v = .iface 59 (.pointer (some a))
/-- A field's 18 cells. -/
structure FldOk (f : List Value) : Prop where
  len : f.length = 18
  m : f[0]? = some (.pointer none) ∨ ∃ a, f[0]? = some (.pointer (some a))
  e2 : ∃ v, f[7]? = some v ∧ NodeCell v
  e3 : ∃ v, f[8]? = some v ∧ NodeCell v
  one : ∀ v ∈ f, v.oneCell' = true
def kid : Option Value → List Value
  | some (.iface t v) => [.iface t v]
  | _ => []
def kidsOf (m x y : Option Value) : List Value :=
  match m with
  | some (.pointer (some a)) => [.iface 37 (.pointer (some a))]
  | _ => kid x ++ kid y
def kids (f : List Value) : List Value := kidsOf f[0]? f[7]? f[8]?
theorem kids_m {f : List Value} {a : Addr} (h : f[0]? = some (.pointer (some a))) : kids f = [.iface 37 (.pointer (some a))] := by unfold kids; rw [h]; rfl
theorem kids_e {f : List Value} (h : f[0]? = some (.pointer none)) : kids f = kid f[7]? ++ kid f[8]? := by unfold kids; rw [h]; rfl
theorem kid_nil : kid (some .nilIface) = [] := rfl
theorem kid_leaf (t : TypeId) (v : Value) : kid (some (.iface t v)) = [.iface t v] := rfl
theorem kids_len {f : List Value} (h : FldOk f) : (kids f).length ≤ 2 := by
  obtain ⟨v2, h2, hv2⟩ := h.e2
  obtain ⟨v3, h3, hv3⟩ := h.e3
  rcases h.m with hm | ⟨a, hm⟩
  · rw [kids_e hm, h2, h3]
    rcases hv2 with rfl | ⟨a, rfl⟩ <;> rcases hv3 with rfl | ⟨b, rfl⟩ <;> simp [kid]
  · rw [kids_m hm]; simp
theorem kids_all_len {fs : List (List Value)} (h : ∀ f ∈ fs, FldOk f) : (fs.flatMap kids).length ≤ 2 * fs.length := by
  induction fs with
  | nil => simp
  | cons f r ih =>
    have h1 := ih (fun x hx => h x (List.mem_cons_of_mem _ hx))
    have h2 := kids_len (h f (by simp))
    rw [List.flatMap_cons, List.length_append, List.length_cons]
    omega

theorem flat_len {fs : List (List Value)} (h : ∀ f ∈ fs, f.length = 18) : fs.flatten.length = fs.length * 18 := by
  induction fs with
  | nil => rfl
  | cons f r ih =>
    have h1 := ih (fun x hx => h x (List.mem_cons_of_mem _ hx))
    have h2 := h f (by simp)
    rw [List.flatten_cons, List.length_append, List.length_cons, h1, h2]
    omega
theorem flat_get {fs : List (List Value)} (h : ∀ f ∈ fs, f.length = 18) {k : Nat} {f : List Value} (hk : fs[k]? = some f) (j : Nat) (hj : j < 18) : fs.flatten[k * 18 + j]? = f[j]? := by
  induction fs generalizing k with
  | nil => simp at hk
  | cons g r ih =>
    have h2 := h g (by simp)
    rw [List.flatten_cons]
    cases k with
    | zero =>
      have : g = f := by simpa using hk
      subst this
      rw [List.getElem?_append_left (by omega), Nat.zero_mul, Nat.zero_add]
    | succ k =>
      rw [List.getElem?_append_right (by omega), h2, show (k + 1) * 18 + j - 18 = k * 18 + j by omega]
      exact ih (fun x hx => h x (List.mem_cons_of_mem _ hx)) (by simpa using hk)
theorem flat_set {fs : List (List Value)} (h : ∀ f ∈ fs, f.length = 18) {k : Nat} {f : List Value} (hk : fs[k]? = some f) (j : Nat) (hj : j < 18) (v : Value) : fs.flatten.set (k * 18 + j) v = (fs.set k (f.set j v)).flatten := by
  induction fs generalizing k with
  | nil => simp at hk
  | cons g r ih =>
    have h2 := h g (by simp)
    rw [List.flatten_cons]
    cases k with
    | zero =>
      have : g = f := by simpa using hk
      subst this
      rw [List.set_append_left _ _ (by omega), Nat.zero_mul, Nat.zero_add, List.set_cons_zero, List.flatten_cons]
    | succ k =>
      rw [List.set_append_right _ _ (by omega), h2, show (k + 1) * 18 + j - 18 = k * 18 + j by omega, List.set_cons_succ, List.flatten_cons]
      rw [ih (fun x hx => h x (List.mem_cons_of_mem _ hx)) (by simpa using hk)]

/-- Block b holds the fields fs. -/
structure Flds (w : World) (b : Nat) (fs : List (List Value)) : Prop where
  blk : Blk w b 49 fs.flatten.toArray
  ok : ∀ f ∈ fs, FldOk f
section
variable {w w' : World} {b : Nat} {fs : List (List Value)}
theorem Flds.lt (h : Flds w b fs) : b < w.heap.size := h.blk.lt
theorem Flds.below (h : Flds w b fs) (hb : Below w.heap.size w w') : Flds w' b fs := ⟨h.blk.below hb h.lt, h.ok⟩
theorem Flds.cell (h : Flds w b fs) {k : Nat} {f : List Value} (hk : fs[k]? = some f) (j : Nat) (hj : j < 18) : w.cell? ⟨b, k * 18 + j, none⟩ = f[j]? := by
  rw [h.blk.cell, List.getElem?_toArray]
  exact flat_get (fun x hx => (h.ok x hx).len) hk j hj
theorem Flds.range (h : Flds w b fs) {k : Nat} {f : List Value} (hk : fs[k]? = some f) : w.rangeAt b (k * 18) f := fun j v hv => by
  have hl := (h.ok f (List.mem_of_getElem? hk)).len
  rw [h.cell hk j (by have := (List.getElem?_eq_some_iff.1 hv).1; omega)]
  exact hv
end

/-- 'x := fields[i]': the field's 18 cells, in a new block. -/
theorem wpList_field {P : Program} {ops : Array Oper} {Q : Exit → Act → World → Prop} {rst : List Oper} {o1 o2 o3 : Oper} {a : Act} {w : World} (hg1 : o1.guard = none) (hg2 : o2.guard = none) (hg3 : o3.guard = none)
    (x y z : Operand) (ho1 : o1.op = .load 49 x) (ho2 : o2.op = .alloc 49) (ho3 : o3.op = .store 49 y z) (hd3 : o3.dst = none)
    (hu : (match P.underlying 49 with | some (.struct _) => true | _ => false) = true) (hz : (P.info? 49).map (fun i => (i.size, (i.zero.map (·.cells.size)))) = some (18, some 18))
    (b o : Nat) (hx : a.eval x = .pointer (some ⟨b, o, none⟩)) (hy : ∀ u v, ((a.put o1.dst u).put o2.dst v).eval y = v) (hzz : ∀ u v, ((a.put o1.dst u).put o2.dst v).eval z = u)
    (f : List Value) (hf : f.length = 18) (h1 : ∀ v ∈ f, v.oneCell' = true) (hr : w.rangeAt b o f)
    (hK : ∀ w', Below w.heap.size w w' → Blk w' w.heap.size 49 f.toArray → wpList P ops Q rst ((a.put o1.dst (.agg f.toArray)).put o2.dst (.pointer (some ⟨w.heap.size, 0, none⟩))) w') : wpList P ops Q (o1 :: o2 :: o3 :: rst) a w := by
  obtain ⟨i, hi, hii⟩ := Option.map_eq_some_iff.1 hz
  injection hii with hs hzs
  obtain ⟨zv, hzv, hzc⟩ := Option.map_eq_some_iff.1 hzs
  obtain ⟨d, hd, hdr⟩ : ∃ d, P.underlying 49 = some d ∧ d.isRow = true := by
    revert hu
    cases P.underlying 49 with
    | none => intro h; cases h
    | some d => intro h; cases d <;> first | exact ⟨_, rfl, rfl⟩ | cases h
  refine wpList_load_mid hg1 _ x ho1 b o hx f d hr hd hdr (by rw [hi]; simp [hs, hf]) ?_
  refine wpList_plain hg2 fun K hK' => ?_
  unfold Oper.wp execOp
  simp [ho2, Instr.alloc, zeroValue, typeInfo, hi, hzv, newVar, newRow]
  refine hK' _ _ ?_
  refine wpList_store_row hg3 _ y z ho3 w.heap.size f.toArray (hy _ _) (hzz _ _) 49 zv.cells (Blk.new _ _ _) (by rw [hi]; simp [hs, hf]) (by rw [hzc]; simp [hf]) (all_oneCell_toArray h1) ?_
  rw [hd3]
  refine hK _ ?_ ?_
  · have hb := below_alloc (Below.refl w.heap.size w) (.cells zv.cells 49)
    exact ⟨hb.os, hb.tape, hb.output, by simp, fun k hk => (setRow_other _ _ k _ (by omega)).trans (hb.block k hk)⟩
  · exact setRow_heap _ _ _ _ _ _ (Blk.new w _ _)
/-- A guard: the next operation loads a field. -/
theorem at_field {P : Program} {ops : Array Oper} {Q : Exit → Act → World → Prop} {rst : List Oper} {d : Option Tmp} {x : Operand} {t : TypeId} {p : String} {f : Array Edge} {a : Act} {w : World} (h : wpList P ops Q (⟨d, .load 49 x, t, p, f, none⟩ :: rst) a w) :
    wpList P ops Q (⟨d, .load 49 x, t, p, f, none⟩ :: rst) a w := h
end Go.Proofs.Yteblhjodfhhfjaa
