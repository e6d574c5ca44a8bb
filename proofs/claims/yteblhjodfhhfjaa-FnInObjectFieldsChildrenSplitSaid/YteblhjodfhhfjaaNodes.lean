/- Slices of nodes that the call owns: their memory, 'append', 'make', the compare. Folder 129. -/
import Derived.Test.YteblhjodfhhfjaaInts
import Derived.Test.YteblhjodfhhfjaaChecked
import Derived.Laws.AppendOwn
import Derived.Maps.AppendAt
import Derived.OwnWalk
import Derived.RegionTactic
import Derived.LaidEql
namespace Go.Proofs.Yteblhjodfhhfjaa
open Go.ChangeShapes Go.WideShapes Go.ChangeAt Go.RowKit
set_option linter.unusedVariables false

/-- A node: an interface that holds a pointer to a leaf or to a function. -/
inductive IsNode : Value → Prop
  | leaf (a : Addr) : IsNode (.iface 59 (.pointer (some a)))
  | fn (a : Addr) : IsNode (.iface 37 (.pointer (some a)))
theorem IsNode.one {u : Value} (h : IsNode u) : u.oneCell' = true := by cases h <;> rfl
theorem neq_same {P : Program} {ti tp te : TypeId} {ms : Array (String × TypeId)} {i j : TypeInfo} (w : World) (a : Addr)
    (hi : P.underlying ti = some (.interface ms)) (hp : P.underlying tp = some (.pointer te)) (hinfo : P.info? tp = some i) (hcomp : i.comparable = true) (hte : P.info? te = some j) :
    (binOp .neq ti (.iface tp (.pointer (some a))) (.iface tp (.pointer (some a)))).run P w = .ok (.bool false) w := by
  simp only [binOp]
  simp [Op.equal, Op.maxDepth, run_equalIn_iface_ptr_same w 9998 a hi hp hinfo hcomp hte]

theorem neq_same' {P : Program} {ti tp te : TypeId} {ms : Array (String × TypeId)} (w : World) (a : Addr)
    (hi : P.underlying ti = some (.interface ms)) (hp : P.underlying tp = some (.pointer te)) (hinfo : (P.info? tp).map (·.comparable) = some true) (hte : (P.info? te).isSome = true) :
    (binOp .neq ti (.iface tp (.pointer (some a))) (.iface tp (.pointer (some a)))).run P w = .ok (.bool false) w := by
  obtain ⟨i, h1, h2⟩ := Option.map_eq_some_iff.1 hinfo
  obtain ⟨j, h3⟩ := Option.isSome_iff_exists.1 hte
  exact neq_same w a hi hp h1 h2 h3

/-- Block g holds the nodes of l, then whatever. -/
structure Nds (w : World) (base g cp : Nat) (l : List Value) : Prop where
  blk : ∃ rest, Blk w g 35 (l ++ rest).toArray ∧ cp = l.length + rest.length
  max : cp ≤ maxLen
  base : base ≤ g
  nodes : ∀ u ∈ l, IsNode u
section
variable {w w' : World} {base g cp : Nat} {l : List Value}
theorem Nds.lt (h : Nds w base g cp l) : g < w.heap.size := by
  obtain ⟨r, hb, -⟩ := h.blk
  exact hb.lt
theorem Nds.below (h : Nds w base g cp l) (hb : Below w.heap.size w w') : Nds w' base g cp l := by
  obtain ⟨r, h1, h2⟩ := h.blk
  exact ⟨⟨r, h1.below hb h1.lt, h2⟩, h.max, h.base, h.nodes⟩
theorem Nds.grown {row : Option Nat} (h : Nds w base g cp l) (hg : w.grownBy w' row) (hne : some g ≠ row) : Nds w' base g cp l := by
  obtain ⟨r, h1, h2⟩ := h.blk
  exact ⟨⟨r, (hg.block g h1.lt hne).trans h1, h2⟩, h.max, h.base, h.nodes⟩
theorem Nds.cell (h : Nds w base g cp l) {k : Nat} {u : Value} (hu : l[k]? = some u) : w.cell? ⟨g, k, none⟩ = some u := by
  obtain ⟨r, h1, -⟩ := h.blk
  rw [h1.cell k, List.getElem?_toArray, List.getElem?_append_left (List.getElem?_eq_some_iff.1 hu).1]
  exact hu
theorem Nds.own (h : Nds w base g cp l) : w.ownsRow base 35 1 (.slice (some ⟨g, 0, none⟩) l.length cp) l.length l := by
  obtain ⟨r, h1, h2⟩ := h.blk
  refine ⟨by simp, Or.inr ⟨g, cp, _, rfl, h.base, h1, by omega, h.max, by simp; exact h2.symm, ?_⟩⟩
  rw [Nat.mul_one]
  exact List.take_left' rfl
theorem nds_of_own {v : Value} (h : w.ownsRow base 35 1 v l.length l) (hv : v ≠ .slice none 0 0) (hn : ∀ u ∈ l, IsNode u) : ∃ g cp, v = .slice (some ⟨g, 0, none⟩) l.length cp ∧ Nds w base g cp l := by
  obtain ⟨_, h | ⟨g, cap, cur, rfl, hb, hh, hle, hm, hs, ht⟩⟩ := h
  · exact absurd h.1 hv
  · rw [Nat.mul_one] at hs ht
    refine ⟨g, cap, rfl, ⟨cur.toList.drop l.length, ?_, ?_⟩, hm, hb, hn⟩
    · unfold Blk
      rw [hh]
      have : l ++ List.drop l.length cur.toList = cur.toList := by
        conv => lhs; arg 1; rw [← ht]
        exact List.take_append_drop _ _
      rw [this]
    · have h1 : (cur.toList.drop l.length).length = cur.size - l.length := by simp
      omega
end
section
variable {P : Program} {ops : Array Oper} {Q : Exit → Act → World → Prop} {rst : List Oper} {o : Oper} {a : Act} {w : World}
theorem wp_append_node {K : Act → World → Prop} (s x : Operand) (t : TypeId) (hop : o.op = Op.call { callee := Callee.builtin Builtin.append, args := #[s, x], argTypes := #[t, t] })
    (ht : P.underlying t = some (.slice 35)) (hi : (P.info? 35).map (fun i => (i.zero, i.size, i.bytes)) = some (some .nilIface, 1, 16))
    (base g cp n : Nat) (l : List Value) (y : Value) (hy : IsNode y) (ad : Addr) (c : Nat) (hn : n = l.length) (hs : a.eval s = .slice (some ⟨g, 0, none⟩) n cp) (hR : Nds w base g cp l) (hx : a.eval x = .slice (some ad) 1 c)
    (hc : w.cell? (ad.add 0) = some y) (hl : n ≤ 1048576) (hbase : base ≤ w.heap.size)
    (hK : ∀ g' cp' w', Nds w' base g' cp' (l ++ [y]) → w.grownBy w' (some g) → (g' = g ∨ g' = w.heap.size) → K (a.put o.dst (.slice (some ⟨g', 0, none⟩) (n + 1) cp')) w') : o.wp P a w K Q := by
  subst hn
  obtain ⟨i, hi0, hz0, hz1, hz2⟩ := info_parts hi
  obtain ⟨v', w', hrun, hown, hgr, hv, hlies⟩ := run_append_own_at (P := P) w base t o.type 35 i _ 1 16 ht hi0 hz0 hz1 hz2 rfl (by decide) _ l.length l hR.own ad 1 c [y] rfl
    (fun j u hj => by
      match j, hj with
      | 0, hj => simp at hj; subst hj; exact hc)
    (fun u hu => by simp at hu; subst hu; exact hy.one) (by unfold maxLen; omega) (by omega) hbase
  have hown' : w'.ownsRow base 35 1 v' (l ++ [y]).length (l ++ [y]) := by simpa using hown
  obtain ⟨g', cp', rfl, hN⟩ := nds_of_own hown' (fun hh => by have := (hv.1 hh).2; omega) (fun u hu => by
    rcases List.mem_append.1 hu with h | h
    · exact hR.nodes u h
    · simp at h; subst h; exact hy)
  unfold Oper.wp
  simp only [execOp, hop, resolve, invoke, builtin, Sem.run_bind, Sem.run_pure, Result.andThen_ok, List.map_toArray, List.map_cons, List.map_nil, hs, hx, hrun]
  have hK' := hK g' cp' w' hN hgr (by simpa [Value.ownBlock] using hlies)
  rw [show (l ++ [y]).length = l.length + 1 by simp]
  exact hK'
theorem wpList_append_node (hg : o.guard = none) (s x : Operand) (t : TypeId) (hop : o.op = Op.call { callee := Callee.builtin Builtin.append, args := #[s, x], argTypes := #[t, t] })
    (ht : P.underlying t = some (.slice 35)) (hi : (P.info? 35).map (fun i => (i.zero, i.size, i.bytes)) = some (some .nilIface, 1, 16))
    (base g cp n : Nat) (l : List Value) (y : Value) (hy : IsNode y) (ad : Addr) (c : Nat) (hn : n = l.length) (hs : a.eval s = .slice (some ⟨g, 0, none⟩) n cp) (hR : Nds w base g cp l) (hx : a.eval x = .slice (some ad) 1 c)
    (hc : w.cell? (ad.add 0) = some y) (hl : n ≤ 1048576) (hbase : base ≤ w.heap.size)
    (hK : ∀ g' cp' w', Nds w' base g' cp' (l ++ [y]) → w.grownBy w' (some g) → (g' = g ∨ g' = w.heap.size) → wpList P ops Q rst (a.put o.dst (.slice (some ⟨g', 0, none⟩) (n + 1) cp')) w') : wpList P ops Q (o :: rst) a w :=
  wpList_plain hg fun K hK' => wp_append_node s x t hop ht hi base g cp n l y hy ad c hn hs hR hx hc hl hbase fun g' cp' w' h1 h2 h3 => hK' _ _ (hK g' cp' w' h1 h2 h3)
end
theorem make_nodes0 {P : Program} {t : TypeId} (ht : P.underlying t = some (.slice 35)) (hi : (P.info? 35).map (fun i => (i.zero, i.size, i.bytes)) = some (some .nilIface, 1, 16)) (n : Nat) (hn : n ≤ 4194304) (w : World) :
    (Instr.makeSlice t (.int .i64 0) (.int .i64 (n : Int))).run P w = .ok (.slice (some ⟨w.heap.size, 0, none⟩) 0 n) (w.alloc (.cells (List.replicate n Value.nilIface).toArray 35)) := by
  obtain ⟨i, hi0, hz, hs, hb⟩ := info_parts hi
  have hr := run_make (P := P) w t 35 i _ ht hi0 hz .i64 .i64 0 n (by omega) (by omega) (by rw [hb]; omega) (by omega)
  rw [hs] at hr
  simp only [Int.toNat_natCast, Nat.mul_one] at hr
  refine (show _ = _ from hr).trans ?_
  congr 3
  apply Array.toList_inj.1
  show (madeCells #[Value.nilIface] n).toList = _
  rw [toList_madeCells_one]
theorem nds_new (w : World) (n base : Nat) (hb : base ≤ w.heap.size) (hn : n ≤ maxLen) : Nds (w.alloc (.cells (List.replicate n Value.nilIface).toArray 35)) base w.heap.size n [] :=
  ⟨⟨List.replicate n Value.nilIface, Blk.new _ _ _, by simp⟩, hn, hb, fun u hu => by simp at hu⟩

theorem leaf_any (w : World) : Calls Try.prog 10 #[] w fun e w' =>
    e = .returned (.iface 59 (.pointer (some ⟨w.heap.size, 0, none⟩))) ∧ Below w.heap.size w w' := by
  go_enter Try.func10, Try.ntmps10
  go_wp2_with fail
  go_ret
  exact ⟨rfl, below_alloc (Below.refl _ _) _⟩
end Go.Proofs.Yteblhjodfhhfjaa
