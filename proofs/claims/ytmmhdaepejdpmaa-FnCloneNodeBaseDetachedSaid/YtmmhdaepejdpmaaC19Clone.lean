/- cloneNodeBase of a Var: a new context cell and a new list of free variables. -/
import Derived.Test.YtmmhdaepejdpmaaCommon
import Derived.Test.YtmmhdaepejdpmaaChecked
import Derived.Laws.AppendOwn
import Derived.Maps.AppendAt
import Derived.Deep.RegionLaw
namespace Go.Proofs.Ytmmhdaepejdpmaa
open Go.ChangeShapes Go.WideShapes Go.ChangeAt Go.RowKit
set_option linter.unusedVariables false

theorem meth_ctx (g : Nat) (w : World) : (method 182 30 (.pointer (some ⟨g, 0, none⟩)) "Context").run Try.prog w = .ok (27, .pointer (some ⟨g, 1, none⟩)) w := by kernel_rfl
theorem meth_fv (g : Nat) (w : World) : (method 182 30 (.pointer (some ⟨g, 0, none⟩)) "FreeVariables").run Try.prog w = .ok (28, .pointer (some ⟨g, 1, none⟩)) w := by kernel_rfl
theorem meth_sctx (g : Nat) (w : World) : (method 182 30 (.pointer (some ⟨g, 0, none⟩)) "SetContext").run Try.prog w = .ok (29, .pointer (some ⟨g, 1, none⟩)) w := by kernel_rfl
theorem meth_sfv (g : Nat) (w : World) : (method 182 30 (.pointer (some ⟨g, 0, none⟩)) "SetFreeVariables").run Try.prog w = .ok (30, .pointer (some ⟨g, 1, none⟩)) w := by kernel_rfl

theorem ahead_sfv (g : Nat) (w : World) : (nilAhead 182 30 (.pointer (some ⟨g, 0, none⟩)) "SetFreeVariables").run Try.prog w = .ok (some false) w := by kernel_rfl
theorem ctx_any (g o : Nat) (p : Option Addr) (w : World) (h : w.cell? ⟨g, o + 1, none⟩ = some (.pointer p)) :
    Calls Try.prog 27 #[.pointer (some ⟨g, o, none⟩)] w fun e w' => e = .returned (.pointer p) ∧ w = w' := by
  go_enter Try.func27, Try.ntmps27
  go_wp2
  go_ret
  exact ⟨rfl, rfl⟩
theorem fv_any (g o : Nat) (a : Option Addr) (n c : Nat) (w : World) (h : w.cell? ⟨g, o + 2, none⟩ = some (.slice a n c)) :
    Calls Try.prog 28 #[.pointer (some ⟨g, o, none⟩)] w fun e w' => e = .returned (.slice a n c) ∧ w = w' := by
  go_enter Try.func28, Try.ntmps28
  go_wp2
  go_ret
  exact ⟨rfl, rfl⟩
theorem sctx_any (g o : Nat) (p : Option Addr) (u : Value) (w : World) (h : w.cell? ⟨g, o + 1, none⟩ = some u) (hf : w.frozen? ⟨g, o + 1, none⟩ = false) :
    Calls Try.prog 29 #[.pointer (some ⟨g, o, none⟩), .pointer p] w fun e w' => e = .returned (.tuple #[]) ∧ w.setCell ⟨g, o + 1, none⟩ (.pointer p) = w' := by
  go_enter Try.func29, Try.ntmps29
  go_wp2
  go_end0
  exact ⟨rfl, rfl⟩
theorem sfv_any (g o : Nat) (a : Option Addr) (n c : Nat) (u : Value) (w : World) (h : w.cell? ⟨g, o + 2, none⟩ = some u) (hf : w.frozen? ⟨g, o + 2, none⟩ = false) :
    Calls Try.prog 30 #[.pointer (some ⟨g, o, none⟩), .slice a n c] w fun e w' => e = .returned (.tuple #[]) ∧ w.setCell ⟨g, o + 2, none⟩ (.slice a n c) = w' := by
  go_enter Try.func30, Try.ntmps30
  go_wp2
  go_end0
  exact ⟨rfl, rfl⟩

/-- Block g' holds the strings ss, then whatever. -/
def IdRow (w : World) (g' cp : Nat) (ss : List ByteArray) : Prop := ∃ rest : List Value, Blk w g' 31 (ss.map Value.string ++ rest).toArray ∧ cp = ss.length + rest.length ∧ cp ≤ maxLen
theorem idrow_of_own {w : World} {base g' n cp : Nat} {ss : List ByteArray} (h : w.ownsRow base 31 1 (.slice (some ⟨g', 0, none⟩) n cp) n (ss.map Value.string)) : IdRow w g' cp ss := by
  obtain ⟨h0, h1 | ⟨g, cap, cur, hv, hb, hh, hn, hm, hs, ht⟩⟩ := h
  · cases h1.1
  · injection hv with hv1 hv2 hv3
    injection hv1 with hv1
    injection hv1 with hv1
    subst hv1 hv3
    rw [Nat.mul_one] at hs ht h0
    have hl : ss.length = n := by simpa using h0
    refine ⟨cur.toList.drop n, ?_, ?_, hm⟩
    · unfold Blk
      rw [hh, ← ht, List.take_append_drop]
    · have h1 : (cur.toList.drop n).length = cur.size - n := by simp
      omega
theorem run_app19 (w : World) (ty : TypeId) (G : Nat) (hG : Blk w G 31 #[]) (a : Option Addr) (n c : Nat) (ss : List ByteArray) (hs : IsStrs w a n c ss) (hn : n ≤ 1048576) :
    ∃ g' cp w', (Builtin.append_ #[37, 37] ty #[.slice (some ⟨G, 0, none⟩) 0 0, .slice a n c]).run Try.prog w = .ok (.slice (some ⟨g', 0, none⟩) n cp) w' ∧ IdRow w' g' cp ss ∧ w.grownBy w' (some G) ∧ (g' = G ∨ g' = w.heap.size) := by
  have hinfo : (Try.prog.info? 31).map (fun i => (i.zero, i.size, i.bytes)) = some (some (.string ByteArray.empty), 1, 16) := by kernel_rfl
  obtain ⟨i, hi0, hz, hsz, hby⟩ := info_parts hinfo
  have hown : w.ownsRow 0 31 1 (.slice (some ⟨G, 0, none⟩) 0 0) 0 [] := ⟨rfl, .inr ⟨G, 0, #[], rfl, Nat.zero_le _, hG, Nat.le_refl _, Nat.zero_le _, rfl, rfl⟩⟩
  cases a with
  | none =>
    obtain rfl : n = 0 := hs.nil rfl
    obtain rfl : ss = [] := List.eq_nil_of_length_eq_zero hs.len
    refine ⟨G, 0, w, ?_, ⟨[], hG, rfl, Nat.zero_le _⟩, ⟨rfl, rfl, rfl, Nat.le_refl _, fun _ _ _ => rfl⟩, Or.inl rfl⟩
    simp [Builtin.append_, run_underlying Try.underlying37, sizeOf, typeInfo, hi0, Builtin.lenOf, Builtin.firstCells, storeCells]
  | some ad =>
    obtain ⟨v', w', hrun, hown', hgr, hnil, hlies⟩ := run_append_own_at (P := Try.prog) w 0 37 ty 31 i _ 1 16 Try.underlying37 hi0 hz hsz hby rfl (by decide) _ 0 [] hown ad n c (ss.map Value.string) (by simp [hs.len])
      (fun j u hj => by
        rw [List.getElem?_map] at hj
        obtain ⟨y, hy, rfl⟩ := Option.map_eq_some_iff.1 hj
        have hjl := (List.getElem?_eq_some_iff.1 hy).1
        obtain ⟨b, off, e', _, hc⟩ := hs.cells (by have := hs.len; omega)
        injection e' with e'
        subst e'
        rw [Addr.add_lit]
        exact hc j y hy)
      (fun u hu => by
        obtain ⟨y, _, rfl⟩ := List.mem_map.1 hu
        rfl) (by unfold maxLen; omega) (by omega) (Nat.zero_le _)
    rw [Nat.zero_add, List.nil_append] at hown'
    have hne : v' ≠ .slice none 0 0 := fun e => by have := (hnil.1 e).1; cases this
    obtain ⟨g', cp, hv⟩ : ∃ g' cp, v' = .slice (some ⟨g', 0, none⟩) n cp := by
      rcases hown'.2 with h | ⟨g, cap, cur, h, _⟩
      · exact absurd h.1 hne
      · exact ⟨g, cap, h⟩
    subst hv
    refine ⟨g', cp, w', hrun, idrow_of_own hown', hgr, ?_⟩
    rcases hlies with h | h
    · left
      simpa [Value.ownBlock] using h
    · right
      simpa [Value.ownBlock] using h
theorem step_app19 {ops : Array Oper} {o : Oper} {a : Act} {w : World} {K : Act → World → Prop} {Q : Exit → Act → World → Prop} {E : Prop} (hg : o.guard = none) (s x : Operand) (hop : o.op = Op.call { callee := Callee.builtin Builtin.append, args := #[s, x], argTypes := #[37, 37] })
    (G : Nat) (hG : Blk w G 31 #[]) (ao : Option Addr) (n c : Nat) (ss : List ByteArray) (hs : a.eval s = .slice (some ⟨G, 0, none⟩) 0 0) (hx : a.eval x = .slice ao n c) (hst : IsStrs w ao n c ss) (hn : n ≤ 1048576)
    (hK : ∀ g' cp w', IdRow w' g' cp ss → w.grownBy w' (some G) → (g' = G ∨ g' = w.heap.size) → K (a.put o.dst (.slice (some ⟨g', 0, none⟩) n cp)) w') : if Region.wanted o (yielded ops a.tmps) = true then Oper.wp Try.prog o a w K Q else E := by
  have hw : Region.wanted o (yielded ops a.tmps) = true := by simp [Region.wanted, hg]
  rw [if_pos hw]
  obtain ⟨g', cp, w', hrun, h1, h2, h3⟩ := run_app19 w o.type G hG ao n c ss hst hn
  unfold Oper.wp
  simp only [execOp, hop, resolve, invoke, builtin, Sem.run_bind, Sem.run_pure, Result.andThen_ok, List.map_toArray, List.map_cons, List.map_nil, hs, hx, hrun]
  exact hK g' cp w' h1 h2 h3

/-- What cloneNodeBase leaves of a Var in block g, whose context pointer is p: new free variables, and where there was a context a new cell of the same text. -/
def ClonePost (g T : Nat) (id : ByteArray) (fo v4 v5 v6 v7 v8 v9 : Value) (p : Option (Addr × ByteArray)) (n : Nat) (ss : List ByteArray) (w : World) (e : Ending) (w' : World) : Prop :=
  e = .returned (.tuple #[]) ∧ ∃ (q : Option Addr) (g' cp : Nat), Blk w' g T #[.string id, fo, .pointer q, .slice (some ⟨g', 0, none⟩) n cp, v4, v5, v6, v7, v8, v9] ∧ IdRow w' g' cp ss ∧ w.heap.size ≤ g' ∧ w.grownBy w' (some g) ∧
    (match p with | none => q = none | some (_, s) => ∃ k, q = some ⟨k, 0, none⟩ ∧ w.heap.size ≤ k ∧ k ≠ g' ∧ Blk w' k 9 #[.string s])

theorem clone_done {g T g' cp n : Nat} {id : ByteArray} {fo v4 v5 v6 v7 v8 v9 : Value} {q : Option Addr} {a : Option Addr} {c : Nat} {ss : List ByteArray} {w W W2 w1 : World} (hgw : w.grownBy W (some g)) (hv : Blk W g T #[.string id, fo, .pointer q, .slice a n c, v4, v5, v6, v7, v8, v9]) (hb2 : Below W.heap.size W W2) (hG : Blk W2 W.heap.size 31 #[]) (hg1 : W2.grownBy w1 (some W.heap.size)) (hR : IdRow w1 g' cp ss) (hl : g' = W.heap.size ∨ g' = W2.heap.size) :
    Blk (w1.setCell ⟨g, 3, none⟩ (.slice (some ⟨g', 0, none⟩) n cp)) g T #[.string id, fo, .pointer q, .slice (some ⟨g', 0, none⟩) n cp, v4, v5, v6, v7, v8, v9] ∧ IdRow (w1.setCell ⟨g, 3, none⟩ (.slice (some ⟨g', 0, none⟩) n cp)) g' cp ss ∧ W.heap.size ≤ g' ∧ w.grownBy (w1.setCell ⟨g, 3, none⟩ (.slice (some ⟨g', 0, none⟩) n cp)) (some g) ∧
      (∀ k t cs, Blk W k t cs → k ≠ g → Blk (w1.setCell ⟨g, 3, none⟩ (.slice (some ⟨g', 0, none⟩) n cp)) k t cs) := by
  have hlg := hv.lt
  have hle : W.heap.size ≤ g' := by
    rcases hl with h | h
    · omega
    · have := hb2.size; omega
  have hkeep : ∀ k t cs, Blk W k t cs → Blk w1 k t cs := fun k t cs hk => (hg1.block k (Nat.lt_of_lt_of_le hk.lt hb2.size) (by have := hk.lt; simp; omega)).trans (hk.below hb2 hk.lt)
  have hv1 := hkeep g T _ hv
  refine ⟨?_, ?_, hle, ⟨?_, ?_, ?_, ?_, fun k hk hne => ?_⟩, fun k t cs hk hne => (hkeep k t cs hk).far (p := ⟨g, 3, none⟩) hne _⟩
  · have := hv1.set_ 3 (.slice (some ⟨g', 0, none⟩) n cp)
    simpa using this
  · obtain ⟨rest, h1, h2, h3⟩ := hR
    exact ⟨rest, h1.far (p := ⟨g, 3, none⟩) (by simp only; omega) _, h2, h3⟩
  · exact (hg1.os.trans hb2.os).trans hgw.os
  · exact (hg1.tape.trans hb2.tape).trans hgw.tape
  · exact (hg1.output.trans hb2.output).trans hgw.output
  · have h1 := hgw.size
    have h2 := hb2.size
    have h3 := hg1.size
    simp [World.setCell]
    omega
  · have hk1 : k < W.heap.size := Nat.lt_of_lt_of_le hk hgw.size
    have e1 := Below.heap_setCell w1 ⟨g, 3, none⟩ (.slice (some ⟨g', 0, none⟩) n cp) k (fun e => hne (by rw [e]))
    exact ((e1.trans (hg1.block k (Nat.lt_of_lt_of_le hk1 hb2.size) (by simp; omega))).trans (hb2.block k hk1)).trans (hgw.block k hk hne)

set_option maxRecDepth 20000 in
set_option maxHeartbeats 1000000 in
theorem clone_none (g T : Nat) (id : ByteArray) (fo : Value) (a : Option Addr) (n c : Nat) (ss : List ByteArray) (v4 v5 v6 v7 v8 v9 : Value) (w : World) (hv : Blk w g T #[.string id, fo, .pointer none, .slice a n c, v4, v5, v6, v7, v8, v9]) (hs : IsStrs w a n c ss) (hl : n ≤ 1048576) :
    Calls Try.prog 11 #[.iface 30 (.pointer (some ⟨g, 0, none⟩))] w (ClonePost g T id fo v4 v5 v6 v7 v8 v9 none n ss w) := by
  have c2 : w.cell? ⟨g, 2, none⟩ = some (.pointer none) := hv.cell 2
  have c3 : w.cell? ⟨g, 3, none⟩ = some (.slice a n c) := hv.cell 3
  have lg := hv.lt
  have m1 := meth_ctx g
  have m2 := meth_fv g
  have m3 := meth_sctx g
  have m4 := meth_sfv g
  have m5 := ahead_sfv g
  have hmk : ∀ W : World, (Instr.makeSlice 37 (.int .i64 0) (.int .i64 0)).run Try.prog W = .ok (.slice (some ⟨W.heap.size, 0, none⟩) 0 0) (W.alloc (.cells #[] 31)) := fun W => by
    have := make_strs (P := Try.prog) Try.underlying37 (e := 31) (by kernel_rfl) 0 (by omega) W
    simpa [emptyA] using this
  have Hv := Lib.hid hv
  have Hs := Lib.hid hs
  clear hv hs
  go_enter Try.func11, Try.ntmps11
  go_wp2_with fail
  refine (ctx_any g 1 none w c2).mono ?_
  rintro e w' ⟨rfl, rfl⟩
  go_wp2_with fail
  have HB2 : Below w.heap.size w ((w.alloc (.cells #[] 31)).drew) := Below.drew (below_alloc (Below.refl _ _) _)
  have HG : Hid (Blk ((w.alloc (.cells #[] 31)).drew) w.heap.size 31 #[]) := (Blk.new w 31 #[]).drew
  have Hs2 := Lib.hid (Hs.out.keep HB2)
  have Hv2 := Lib.hid (Hv.out.below HB2 Hv.out.lt)
  have hgn : g ≠ w.heap.size := by omega
  have Hb2 := Lib.hid HB2
  clear HB2
  go_region_law (first | (refine step_app19 (by rfl) _ _ (by rfl) w.heap.size HG.out a n c ss (by rfl) (by rfl) Hs2.out hl ?_; intro g' cp w1 hR1 hg1 hl1; have hv1 : Blk w1 g T #[.string id, fo, .pointer none, .slice a n c, v4, v5, v6, v7, v8, v9] := (hg1.block g Hv2.out.lt (by simp; exact hgn)).trans Hv2.out; have e3 : w1.cell? ⟨g, 3, none⟩ = some (.slice a n c) := hv1.cell 3; have f3 := hv1.frozen 3; have HR1 := Lib.hid hR1; have Hg1 := Lib.hid hg1; have Hl1 := Lib.hid hl1; have Hv1 := Lib.hid hv1; clear hR1 hg1 hl1 hv1) | (go_simp; go_at_call 28; refine (fv_any g 1 a n c _ (by first | exact Hv2.out.cell 3 | exact (Blk.drew Hv.out).cell 3)).mono ?_; rintro e w' ⟨rfl, rfl⟩) | (go_simp; go_at_call 30; refine (sfv_any g 1 _ _ _ _ _ e3 f3).mono ?_; rintro e w' ⟨rfl, rfl⟩))
  all_goals
    go_end0
    obtain ⟨d1, d2, d3, d4, -⟩ := clone_done (n := n) ⟨rfl, rfl, rfl, Nat.le_refl _, fun _ _ _ => rfl⟩ Hv.out Hb2.out HG.out Hg1.out HR1.out Hl1.out
    exact ⟨rfl, none, g', cp, d1, d2, d3, d4, rfl⟩

theorem clone_stage {g T n c : Nat} {id s : ByteArray} {fo v4 v5 v6 v7 v8 v9 : Value} {q a : Option Addr} {ss : List ByteArray} {w : World} (hv : Blk w g T #[.string id, fo, .pointer q, .slice a n c, v4, v5, v6, v7, v8, v9]) (hs : IsStrs w a n c ss) (hag : ∀ b off, a = some ⟨b, off, none⟩ → b ≠ g) :
    Blk ((w.alloc (.cells #[.string s] 9)).setCell ⟨g, 2, none⟩ (.pointer (some ⟨w.heap.size, 0, none⟩))) w.heap.size 9 #[.string s] ∧ Blk ((w.alloc (.cells #[.string s] 9)).setCell ⟨g, 2, none⟩ (.pointer (some ⟨w.heap.size, 0, none⟩))) g T #[.string id, fo, .pointer (some ⟨w.heap.size, 0, none⟩), .slice a n c, v4, v5, v6, v7, v8, v9] ∧
      w.grownBy ((w.alloc (.cells #[.string s] 9)).setCell ⟨g, 2, none⟩ (.pointer (some ⟨w.heap.size, 0, none⟩))) (some g) ∧ IsStrs ((w.alloc (.cells #[.string s] 9)).setCell ⟨g, 2, none⟩ (.pointer (some ⟨w.heap.size, 0, none⟩))) a n c ss ∧ ((w.alloc (.cells #[.string s] 9)).setCell ⟨g, 2, none⟩ (.pointer (some ⟨w.heap.size, 0, none⟩))).heap.size = w.heap.size + 1 := by
  have hlg := hv.lt
  refine ⟨(Blk.new w 9 #[.string s]).far (p := ⟨g, 2, none⟩) (by simp only; omega) _, ?_, ⟨rfl, rfl, rfl, by simp [World.setCell], fun k hk hne => ?_⟩, (hs.keep (below_alloc (Below.refl _ _) _)).set (p := ⟨g, 2, none⟩) hag _, by simp [World.setCell]⟩
  · have := (hv.alloc (.cells #[.string s] 9)).set_ 2 (.pointer (some ⟨w.heap.size, 0, none⟩))
    simpa using this
  · exact (Below.heap_setCell (w.alloc (.cells #[.string s] 9)) ⟨g, 2, none⟩ _ k (fun e => hne (by rw [e]))).trans (Below.heap_alloc w _ k hk)

set_option maxRecDepth 20000 in
set_option maxHeartbeats 1000000 in
theorem clone_some (g T : Nat) (id : ByteArray) (fo : Value) (a : Option Addr) (n c : Nat) (ss : List ByteArray) (v4 v5 v6 v7 v8 v9 : Value) (w : World) (ga oa : Nat) (s : ByteArray) (hv : Blk w g T #[.string id, fo, .pointer (some ⟨ga, oa, none⟩), .slice a n c, v4, v5, v6, v7, v8, v9]) (hc : w.cell? ⟨ga, oa, none⟩ = some (.string s)) (hag : ∀ b off, a = some ⟨b, off, none⟩ → b ≠ g) (hs : IsStrs w a n c ss) (hl : n ≤ 1048576) :
    Calls Try.prog 11 #[.iface 30 (.pointer (some ⟨g, 0, none⟩))] w (ClonePost g T id fo v4 v5 v6 v7 v8 v9 (some (⟨ga, oa, none⟩, s)) n ss w) := by
  have c2 : w.cell? ⟨g, 2, none⟩ = some (.pointer (some ⟨ga, oa, none⟩)) := hv.cell 2
  have c3 : w.cell? ⟨g, 3, none⟩ = some (.slice a n c) := hv.cell 3
  have f2 := hv.frozen 2
  have lg := hv.lt
  have la := lt_of_cell hc
  simp only at la
  have lg1 : g < w.heap.size + 1 := by omega
  have ng : ¬ g = w.heap.size := by omega
  have ng' : ¬ w.heap.size = g := by omega
  have na : ¬ ga = w.heap.size := by omega
  have na' : ¬ w.heap.size = ga := by omega
  have m1 := meth_ctx g
  have m2 := meth_fv g
  have m3 := meth_sctx g
  have m4 := meth_sfv g
  have m5 := ahead_sfv g
  have hmk : ∀ W : World, (Instr.makeSlice 37 (.int .i64 0) (.int .i64 0)).run Try.prog W = .ok (.slice (some ⟨W.heap.size, 0, none⟩) 0 0) (W.alloc (.cells #[] 31)) := fun W => by
    have := make_strs (P := Try.prog) Try.underlying37 (e := 31) (by kernel_rfl) 0 (by omega) W
    simpa [emptyA] using this
  have Hv0 := Lib.hid hv
  have Hs0 := Lib.hid hs
  clear hv hs
  go_enter Try.func11, Try.ntmps11
  go_wp2_with fail
  refine (ctx_any g 1 _ w c2).mono ?_
  rintro e w' ⟨rfl, rfl⟩
  go_wp2_with fail
  refine (ctx_any g 1 (some ⟨ga, oa, none⟩) _ ((Hv0.out.alloc _).cell 2)).mono ?_
  rintro e w' ⟨rfl, rfl⟩
  go_wp2_with fail
  refine (sctx_any g 1 _ (.pointer (some ⟨ga, oa, none⟩)) _ ((Hv0.out.alloc _).cell 2) ((Hv0.out.alloc _).frozen 2)).mono ?_
  rintro e w' ⟨rfl, hw'⟩
  have HX : Hid (Blk w' w.heap.size 9 #[.string s] ∧ Blk w' g T #[.string id, fo, .pointer (some ⟨w.heap.size, 0, none⟩), .slice a n c, v4, v5, v6, v7, v8, v9] ∧ w.grownBy w' (some g) ∧ IsStrs w' a n c ss ∧ w'.heap.size = w.heap.size + 1) := by
    simp only [Hid]
    rw [← hw']
    exact clone_stage Hv0.out Hs0.out hag
  obtain ⟨x1, x2, x3, x4, x5⟩ := HX.out
  have Hv := Lib.hid x2
  have Hs := Lib.hid x4
  have Hk := Lib.hid x1
  have Hgw := Lib.hid x3
  have Hz := Lib.hid x5
  have lg2 : g < w'.heap.size := x2.lt
  clear HX x1 x2 x3 x4 x5 hw' c2 c3 f2
  obtain ⟨W, hW⟩ : ∃ z, z = w' := ⟨_, rfl⟩
  subst hW
  go_wp2_with fail
  have HB2 : Below W.heap.size W ((W.alloc (.cells #[] 31)).drew) := Below.drew (below_alloc (Below.refl _ _) _)
  have HG : Hid (Blk ((W.alloc (.cells #[] 31)).drew) W.heap.size 31 #[]) := (Blk.new W 31 #[]).drew
  have Hs2 := Lib.hid (Hs.out.keep HB2)
  have Hv2 := Lib.hid (Hv.out.below HB2 Hv.out.lt)
  have hgn : g ≠ W.heap.size := by omega
  have Hb2 := Lib.hid HB2
  clear HB2
  go_region_law (first | (refine step_app19 (by rfl) _ _ (by rfl) W.heap.size HG.out a n c ss (by rfl) (by rfl) Hs2.out hl ?_; intro g' cp w1 hR1 hg1 hl1; have hv1 : Blk w1 g T #[.string id, fo, .pointer (some ⟨w.heap.size, 0, none⟩), .slice a n c, v4, v5, v6, v7, v8, v9] := (hg1.block g Hv2.out.lt (by simp; exact hgn)).trans Hv2.out; have e3 : w1.cell? ⟨g, 3, none⟩ = some (.slice a n c) := hv1.cell 3; have f3 := hv1.frozen 3; have HR1 := Lib.hid hR1; have Hg1 := Lib.hid hg1; have Hl1 := Lib.hid hl1; have Hv1 := Lib.hid hv1; clear hR1 hg1 hl1 hv1) | (go_simp; go_at_call 28; refine (fv_any g 1 a n c _ (by first | exact Hv2.out.cell 3 | exact (Blk.drew Hv.out).cell 3)).mono ?_; rintro e w' ⟨rfl, rfl⟩) | (go_simp; go_at_call 30; refine (sfv_any g 1 _ _ _ _ _ e3 f3).mono ?_; rintro e w' ⟨rfl, rfl⟩))
  all_goals
    go_end0
    obtain ⟨d1, d2, d3, d4, d5⟩ := clone_done (n := n) Hgw.out Hv.out Hb2.out HG.out Hg1.out HR1.out Hl1.out
    have hz := Hz.out
    exact ⟨rfl, some ⟨w.heap.size, 0, none⟩, g', cp, d1, d2, by omega, d4, w.heap.size, rfl, Nat.le_refl _, by omega, d5 _ _ _ Hk.out (by omega)⟩
end Go.Proofs.Ytmmhdaepejdpmaa
