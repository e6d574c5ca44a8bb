/- 'append' of one string to a slice of the call's own that has room. Over any program. -/
import Derived.Test.YtfefapadffmdlaaSetRange
import Derived.Laws.AppendOwn
import Derived.OwnWalk
namespace Go.Proofs.Ytfefapadffmdlaa
open Go.ChangeShapes Go.WideShapes Go.ChangeAt Go.RowKit
set_option linter.unusedVariables false

theorem fillO_toList (out : List ByteArray) (n : Nat) : (fillO out n).toList = out.map Value.string ++ List.replicate (n - out.length) (Value.string ByteArray.empty) := by simp [fillO]
theorem fillO_app {out : List ByteArray} {n : Nat} {x : ByteArray} (h : out.length < n) :
    ((fillO out n).toList.take out.length ++ [Value.string x] ++ (fillO out n).toList.drop (out.length + 1)).toArray = fillO (out ++ [x]) n := by
  obtain ⟨m, hm⟩ : ∃ m, n - out.length = m + 1 := ⟨n - out.length - 1, by omega⟩
  have h2 : n - (out ++ [x]).length = m := by simp; omega
  rw [fillO_toList, hm, fillO, h2]
  congr 1
  rw [List.take_left' (by simp), List.drop_append]
  simp [List.replicate_succ]
theorem size_fillO {out : List ByteArray} {n : Nat} (h : out.length ≤ n) : (fillO out n).size = n := by simp [fillO]; omega
theorem setRow_wrote (w : World) (g : Nat) (cs : Array Value) : Wrote g w (w.setRow g cs) := ⟨rfl, rfl, rfl, by simp, fun k hk => setRow_other w g k _ hk⟩
theorem new_cell (w : World) (t : TypeId) (x : Value) : (w.alloc (.cells #[x] t)).cell? (Addr.add ⟨w.heap.size, 0, none⟩ 0) = some x := (Blk.new w t #[x]).cell 0
theorem new_cellN (w : World) (m : Nat) (t : TypeId) (x : Value) : ((w.drewN m).alloc (.cells #[x] t)).cell? (Addr.add ⟨w.heap.size, 0, none⟩ 0) = some x := (Blk.new (w.drewN m) t #[x]).cell 0
theorem IsStrs.grown {w w' : World} {row : Option Nat} {a : Option Addr} {n cap : Nat} {ss : List ByteArray} (h : IsStrs w a n cap ss) (hg : w.grownBy w' row) (hp : ∀ b off, a = some ⟨b, off, none⟩ → some b ≠ row) : IsStrs w' a n cap ss :=
  ⟨h.len, h.lecap, h.capmax, h.sizes, h.nil, fun hn => by
    obtain ⟨b, off, e, hlt, hc⟩ := h.cells hn
    refine ⟨b, off, e, Nat.lt_of_lt_of_le hlt hg.size, fun k s hs => ?_⟩
    rw [World.cell?_of_block (a := ⟨b, off + k, none⟩) (hg.block b hlt (hp b off e))]
    exact hc k s hs⟩

section
variable {P : Program} {ops : Array Oper} {Q : Exit → Act → World → Prop} {rest : List Oper} {o : Oper} {a : Act} {w : World}
theorem wpList_append_str (hg : o.guard = none) (s x : Operand) (t : TypeId) (hop : o.op = Op.call { callee := Callee.builtin Builtin.append, args := #[s, x], argTypes := #[t, t] })
    (e : TypeId) (ht : P.underlying t = some (.slice e)) (hi : (P.info? e).map (·.size) = some 1)
    (g n : Nat) (out : List ByteArray) (y : ByteArray) (ad : Addr) (c : Nat) (k : Nat) (hk : k = out.length) (hs : a.eval s = .slice (some ⟨g, 0, none⟩) k n) (hB : Blk w g e (fillO out n)) (hx : a.eval x = .slice (some ad) 1 c)
    (hc : w.cell? (ad.add 0) = some (.string y)) (hroom : out.length < n)
    (hK : ∀ w', Blk w' g e (fillO (out ++ [y]) n) → Wrote g w w' → wpList P ops Q rest (a.put o.dst (.slice (some ⟨g, 0, none⟩) (k + 1) n)) w') : wpList P ops Q (o :: rest) a w := by
  subst hk
  obtain ⟨i, hi0, hs1⟩ := size_of_info hi
  have hrun := run_append_room (P := P) w t o.type e i ht hi0 g out.length n (fillO out n) hB ad 1 c [.string y] (by simp [hs1])
    (fun j u hj => by
      match j, hj with
      | 0, hj => simp at hj; subst hj; exact hc)
    (fun u hu => by simp at hu; subst hu; rfl) hroom (by rw [hs1, size_fillO (Nat.le_of_lt hroom)]; simp; omega)
  rw [hs1, Nat.mul_one] at hrun
  rw [show ([Value.string y] : List Value).length = 1 from rfl, fillO_app hroom] at hrun
  refine wpList_plain hg fun K hK' => ?_
  unfold Oper.wp
  simp [execOp, hop, resolve, invoke, builtin, hs, hx, hrun, Result.andThen]
  refine hK' _ _ (hK _ ?_ (setRow_wrote w g _))
  exact setRow_heap w g _ _ e _ hB
theorem wpList_append_strs (hg : o.guard = none) (s x : Operand) (t : TypeId) (hop : o.op = Op.call { callee := Callee.builtin Builtin.append, args := #[s, x], argTypes := #[t, t] })
    (e : TypeId) (ht : P.underlying t = some (.slice e)) (hi : (P.info? e).map (·.size) = some 1)
    (g n : Nat) (out ys : List ByteArray) (ao : Option Addr) (m c : Nat) (k : Nat) (hk : k = out.length) (hs : a.eval s = .slice (some ⟨g, 0, none⟩) k n) (hB : Blk w g e (fillO out n)) (hx : a.eval x = .slice ao m c)
    (hst : IsStrs w ao m c ys) (hroom : k + m ≤ n)
    (hK : ∀ w', Blk w' g e (fillO (out ++ ys) n) → Wrote g w w' → wpList P ops Q rest (a.put o.dst (.slice (some ⟨g, 0, none⟩) (k + m) n)) w') : wpList P ops Q (o :: rest) a w := by
  subst hk
  obtain ⟨i, hi0, hs1⟩ := size_of_info hi
  cases ao with
  | none =>
    obtain rfl : m = 0 := hst.nil rfl
    have hys : ys = [] := List.eq_nil_of_length_eq_zero hst.len
    subst hys
    have hrun : (Builtin.append_ #[t, t] o.type #[.slice (some ⟨g, 0, none⟩) out.length n, .slice none 0 c]).run P w = .ok (.slice (some ⟨g, 0, none⟩) out.length n) w := by
      simp [Builtin.append_, run_underlying ht, sizeOf, typeInfo, hi0, Builtin.lenOf, Builtin.firstCells, loadCells, show out.length ≤ n by omega, storeCells]
    refine wpList_plain hg fun K hK' => ?_
    unfold Oper.wp
    simp [execOp, hop, resolve, invoke, builtin, hs, hx, hrun, Result.andThen]
    refine hK' _ _ ?_
    have := hK w (by simpa using hB) (Wrote.refl g w)
    simpa using this
  | some ad =>
    have hrun := run_append_room (P := P) w t o.type e i ht hi0 g out.length n (fillO out n) hB ad m c (ys.map Value.string) (by simp [hs1, hst.len])
      (fun j u hj => by
        rw [List.getElem?_map] at hj
        obtain ⟨y, hy, rfl⟩ := Option.map_eq_some_iff.1 hj
        have hjl := (List.getElem?_eq_some_iff.1 hy).1
        obtain ⟨b, off, e', _, hc⟩ := hst.cells (by have := hst.len; omega)
        injection e' with e'
        subst e'
        rw [Addr.add_lit]
        exact hc j y hy)
      (fun u hu => by
        obtain ⟨y, _, rfl⟩ := List.mem_map.1 hu
        rfl) hroom (by rw [hs1, size_fillO (by omega)]; simp [hst.len]; omega)
    rw [hs1, Nat.mul_one] at hrun
    have happ : ((fillO out n).toList.take out.length ++ ys.map Value.string ++ (fillO out n).toList.drop (out.length + (ys.map Value.string).length)).toArray = fillO (out ++ ys) n := by
      rw [fillO_toList, fillO]
      congr 1
      rw [List.take_left' (by simp), List.drop_append, List.map_append]
      have h1 : List.drop (out.length + (List.map Value.string ys).length) (List.map Value.string out) = [] := List.drop_eq_nil_of_le (by simp)
      rw [h1, List.nil_append, List.drop_replicate]
      congr 2
      simp [hst.len]
      omega
    rw [happ] at hrun
    refine wpList_plain hg fun K hK' => ?_
    unfold Oper.wp
    simp [execOp, hop, resolve, invoke, builtin, hs, hx, hrun, Result.andThen]
    exact hK' _ _ (hK _ (setRow_heap w g _ _ e _ hB) (setRow_wrote w g _))
end
end Go.Proofs.Ytfefapadffmdlaa
