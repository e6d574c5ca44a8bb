/- flatten, joinStrings: rows of strings of the call's own. -/
import Derived.Test.YtnagdbnfdedejaaFmtC55Wrap
namespace Go.Proofs.YtnagdbnfdedejaaFmt
open Go.ChangeShapes Go.WideShapes Go.ChangeAt Go.RowKit
set_option linter.unusedVariables false

/-- The slice value v is a row of strings of the call's own that reads as ss. -/
structure StrR (base : Nat) (w : World) (v : Value) (ss : List ByteArray) : Prop where
  own : w.ownsRow base 9 1 v ss.length (ss.map Value.string)
  sz : ∀ s ∈ ss, s.size ≤ maxLen
section
variable {base : Nat} {w w' : World} {v : Value} {ss : List ByteArray}
theorem StrR.keep (h : StrR base w v ss) (hb : Below w.heap.size w w') : StrR base w' v ss := ⟨own_move h.own fun g cs _ hk => hk.below hb hk.lt, h.sz⟩
theorem StrR.weaken {base' : Nat} (h : StrR base w v ss) (hb : base' ≤ base) : StrR base' w v ss := by
  obtain ⟨⟨h0, h1⟩, h2⟩ := h
  refine ⟨⟨h0, ?_⟩, h2⟩
  rcases h1 with hn | ⟨g', cap, cur, rfl, hb', rest⟩
  · exact .inl hn
  · exact .inr ⟨g', cap, cur, rfl, Nat.le_trans hb hb', rest⟩
theorem StrR.form (h : StrR base w v ss) : ∃ a cap, v = .slice a ss.length cap ∧ IsStrs w a ss.length cap ss := by
  rcases h.own.2 with ⟨rfl, hn⟩ | ⟨g, cap, cur, rfl, hb, hh, hnc, hcm, hs, ht⟩
  · have hss : ss = [] := List.eq_nil_of_length_eq_zero hn
    subst hss
    exact ⟨none, 0, rfl, strs_nil w⟩
  · refine ⟨_, cap, rfl, rfl, hnc, hcm, (fun k s hs' => h.sz s (List.mem_of_getElem? hs')), (fun h => by cases h), fun _ => ⟨g, 0, rfl, (Blk.lt (w := w) hh), fun k s hs' => ?_⟩⟩
    have hc := h.own.cells (g := g) rfl k (.string s) (by rw [List.getElem?_map, hs']; rfl)
    have fix : (⟨g, 0, none⟩ : Addr).add k = ⟨g, 0 + k, none⟩ := by
      unfold Addr.add
      split
      · rename_i h0; subst h0; rfl
      · rfl
    rw [fix] at hc
    exact hc
end
theorem news1 (w : World) (T H : Nat) (hH : w.heap.size = H) (v0 : Value) : ∀ j u, [v0][j]? = some u → (w.alloc (.cells #[v0] T)).cell? (Addr.add ⟨H, 0, none⟩ j) = some u := by
  subst hH
  intro j u hu
  match j, hu with
  | 0, hu =>
    simp at hu
    subst hu
    exact (Blk.new w T #[v0]).cell 0
section
variable {P : Program} {ops : Array Oper} {Q : Exit → Act → World → Prop} {rst : List Oper} {o : Oper} {a : Act} {w : World}
theorem wpList_append_strR (hg : o.guard = none) (s x : Operand) (t : TypeId) (hop : o.op = Op.call { callee := Callee.builtin Builtin.append, args := #[s, x], argTypes := #[t, t] })
    (ht : P.underlying t = some (.slice 9)) (hi : (P.info? 9).map (fun i => (i.zero, i.size, i.bytes)) = some (some (.string ByteArray.empty), 1, 16))
    (base : Nat) (v : Value) (ss : List ByteArray) (y : ByteArray) (ad : Addr) (c : Nat) (hs : a.eval s = v) (hR : StrR base w v ss) (hx : a.eval x = .slice (some ad) 1 c) (hy : y.size ≤ maxLen)
    (hc : ∀ j u, [Value.string y][j]? = some u → w.cell? (ad.add j) = some u) (hl : ss.length ≤ 4398046511104) (hbase : base ≤ w.heap.size)
    (hK : ∀ v' w', StrR base w' v' (ss ++ [y]) → w.grownBy w' v.ownBlock → wpList P ops Q rst (a.put o.dst v') w') : wpList P ops Q (o :: rst) a w := by
  obtain ⟨i, hi0, hz0, hz1, hz2⟩ := info_parts hi
  refine wpList_append_own w hg s x t hop base 9 i (.string ByteArray.empty) 1 16 ht hi0 hz0 hz1 hz2 rfl (by decide) v ss.length (ss.map Value.string) hs hR.own ad 1 c [.string y] hx rfl hc (fun u hu => by simp at hu; subst hu; rfl) (by unfold maxLen; omega) (by omega) hbase ?_
  intro v' w' hown hgr _
  refine hK v' w' ⟨by simpa using hown, fun z hz => ?_⟩ hgr
  rcases List.mem_append.1 hz with h | h
  · exact hR.sz z h
  · simp at h; rw [h]; exact hy
end
theorem below_grownS {a w w' : World} {r : Option Nat} (h : Below a.heap.size a w) (hg : w.grownBy w' r) (hr : ∀ g, r = some g → a.heap.size ≤ g) : Below a.heap.size a w' :=
  h.trans ⟨hg.os, hg.tape, hg.output, hg.size, fun k hk => hg.block k (Nat.lt_of_lt_of_le hk h.size) (fun e => by have := hr k e.symm; omega)⟩
/-- A new row of strings comes back. -/
def StrPost (ss : List ByteArray) (w : World) (e : Ending) (w' : World) : Prop := ∃ v, e = .returned v ∧ StrR w.heap.size w' v ss ∧ Below w.heap.size w w'
theorem flat_take {fs : List El} {k : Nat} {x : El} (h : fs[k]? = some x) : flat (fs.take (k + 1)) = flat (fs.take k) ++ x.cs := by
  rw [List.take_add_one, h, flat_append]
  simp [flat]
theorem flat_len {l : List El} (h : Sh l) : (flat l).length ≤ l.length * 1048576 := by
  induction l with
  | nil => simp [flat]
  | cons x r ih =>
    have h1 := ih (fun y hy => h y (by simp [hy]))
    have h2 := h x (by simp)
    have e : flat (x :: r) = x.cs ++ flat r := by simp [flat]
    rw [e, List.length_append, List.length_cons]
    omega
theorem snoc_take {ss : List ByteArray} {j : Nat} {s : ByteArray} (h : ss[j]? = some s) (p : List ByteArray) : p ++ ss.take j ++ [s] = p ++ ss.take (j + 1) := by
  rw [List.take_add_one, h, List.append_assoc]
  rfl

set_option maxRecDepth 20000 in
set_option maxHeartbeats 1600000 in
theorem flatten_any (a0 : Option Addr) (len0 cap0 : Nat) (s0 : List FEl) (w : World) (w0 : IsFEs w a0 len0 cap0 s0) (hl : len0 ≤ 4194304) (hs : Sh (s0.map FEl.el)) :
    Calls Tryf.prog 31 #[.slice a0 len0 cap0] w (StrPost (flat (s0.map FEl.el)) w) := by
  have Hml : Hid ((s0.map FEl.el).length = len0) := by simp [Hid, w0.len]
  have Hs := Lib.hid hs
  have hinfo : (Tryf.prog.info? 9).map (fun i => (i.zero, i.size, i.bytes)) = some (some (.string ByteArray.empty), 1, 16) := by kernel_rfl
  have Hinfo := Lib.hid hinfo
  clear hs hinfo
  have hR0 : StrR w.heap.size (w.alloc (.cells #[] 9)) (.slice (some ⟨w.heap.size, 0, none⟩) 0 0) [] := ⟨World.ownsRow_made w #[] 0 (Nat.le_refl _) (Nat.zero_le _) rfl, fun s hs => by simp at hs⟩
  have HR0 := Lib.hid hR0
  clear hR0
  go_enter Tryf.func31, Tryf.ntmps31
  go_wp2_with fail
  go_loopw [3, 4] (fun v3 i wr => ∃ k : Nat, k ≤ len0 ∧ i = .int .i64 k ∧ Hid (StrR w.heap.size wr v3 (flat ((s0.map FEl.el).take k))) ∧ Below w.heap.size w wr) (fun _ i _ => len0 - (intOf i).toNat)
  case atStart => exact ⟨0, Nat.zero_le _, rfl, by simpa [flat] using HR0, below_alloc (Below.refl _ _) _⟩
  case round =>
    clear HR0
    obtain ⟨k, hk, rfl, hR, hW⟩ := hrel
    by_cases hlt : k < len0
    · obtain ⟨b, off, x, rfl, hblt, hx, hfe, c0, c1, c2, c3⟩ := w0.at_ hlt
      have Hx : Hid ((s0.map FEl.el)[k]? = some x.el) := el_at hx
      obtain ⟨xa, xl, xc, xs, xk, xb, xi⟩ := x
      have hst : IsStrs w xa xl xc xs := hfe.strs
      dsimp only at c0
      have hxl : xl ≤ 1048576 := by
        have h1 := Hs.out _ (List.mem_of_getElem? Hx.out)
        have h2 := hst.len
        have h3 : (FEl.el ⟨xa, xl, xc, xs, xk, xb, xi⟩).cs.length = xs.length := rfl
        omega
      have Hfl : Hid ((flat ((s0.map FEl.el).take k)).length ≤ 4398045462528) := by
        have h1 := flat_len (l := (s0.map FEl.el).take k) (fun y hy => Hs.out y (List.mem_of_mem_take hy))
        have h2 := List.length_take_le k (s0.map FEl.el)
        simp only [Hid]
        have h3 : ((s0.map FEl.el).take k).length * 1048576 ≤ 4194303 * 1048576 := Nat.mul_le_mul_right _ (by omega)
        omega
      have Hst := Lib.hid hst
      have Hc0 := Lib.hid c0
      clear hx hfe c0 c1 c2 c3 hst
      have i0 : (0 : Int) ≤ (k : Int) := by omega
      have i1 : (k : Int) < (len0 : Int) := by omega
      go_wp2_with fail
      go_loopw [3, 5] (fun v3 i wq => ∃ q : Nat, q ≤ xl ∧ i = .int .i64 q ∧ Hid (StrR w.heap.size wq v3 (flat ((s0.map FEl.el).take k) ++ xs.take q)) ∧ Hid (Below w.heap.size w wq)) (fun _ i _ => xl - (intOf i).toNat)
      case atStart => exact ⟨0, Nat.zero_le _, rfl, by simpa using hR, hW⟩
      case round =>
        clear hR hW
        obtain ⟨q, hq, rfl, hR, hW⟩ := hrel
        obtain ⟨wq, hwq⟩ : ∃ z, z = wr := ⟨_, rfl⟩
        subst hwq
        have c0 : wq.cell? ⟨b, off + k * 4, none⟩ = some (.slice xa xl xc) := (hW.out.cell (p := ⟨b, off + k * 4, none⟩) hblt).trans Hc0.out
        have hblq : b < wq.heap.size := Nat.lt_of_lt_of_le hblt hW.out.size
        obtain ⟨av, cv, hv, -⟩ := hR.out.form
        subst hv
        by_cases hlq : q < xl
        · obtain ⟨b2, off2, s, rfl, hblt2, hs2, hsz, hcell2⟩ := (Hst.out.keep hW.out).at_ hlq
          have hb2 : Below wq.heap.size wq (wq.alloc (.cells #[.string s] 9)) := below_alloc (Below.refl _ _) _
          have HR2 := Lib.hid (hR.out.keep hb2)
          have Hl2 : Hid ((flat ((s0.map FEl.el).take k) ++ xs.take q).length ≤ 4398046511104) := by
            have h1 := Hfl.out
            have h2 := List.length_take_le q xs
            simp only [Hid, List.length_append]
            omega
          have Hz2 : Hid (w.heap.size ≤ (wq.alloc (.cells #[.string s] 9)).heap.size) := by have := hW.out.size; simp [Hid]; omega
          have Hs2 := Lib.hid hs2
          have Hsz := Lib.hid hsz
          have j0 : (0 : Int) ≤ (q : Int) := by omega
          have j1 : (q : Int) < (xl : Int) := by omega
          clear hs2 hsz hb2
          go_wp2_with (at_builtin; refine wpList_append_strR rfl _ _ 33 rfl Tryf.underlying33 Hinfo.out w.heap.size _ (flat ((s0.map FEl.el).take k) ++ xs.take q) s _ 1 rfl HR2.out rfl Hsz.out (news1 wq _ _ rfl _) Hl2.out Hz2.out ?_; intro v1 w1 hR1 hg1)
          have HR3 : Hid (StrR w.heap.size w1 v1 (flat ((s0.map FEl.el).take k) ++ xs.take (q + 1))) := by rw [← snoc_take Hs2.out]; exact hR1
          have HW3 : Hid (Below w.heap.size w w1) := below_grownS (below_alloc hW.out _) hg1 (fun g hg => (hR.out.own.lt g hg).1)
          exact ⟨⟨q + 1, by omega, by go_num, HR3, HW3⟩, by simp [intOf]; omega⟩
        · obtain rfl : q = xl := by omega
          have HR3 : Hid (StrR w.heap.size wq (.slice av (flat ((s0.map FEl.el).take k) ++ xs.take q).length cv) (flat ((s0.map FEl.el).take (k + 1)))) := by
            have h := hR.out
            have e : flat ((s0.map FEl.el).take (k + 1)) = flat ((s0.map FEl.el).take k) ++ xs.take q := by
              rw [flat_take Hx.out, List.take_of_length_le (l := xs) (i := q) (by rw [Hst.out.len]; exact Nat.le_refl _)]
              rfl
            rw [e]
            exact h
          have HW3 := hW
          clear hR hW
          go_wp2_with fail
          exact ⟨⟨k + 1, by omega, by go_num, HR3, HW3.out⟩, by simp [intOf]; omega⟩
    · obtain rfl : k = len0 := by omega
      have HR3 : Hid (StrR w.heap.size wr u3 (flat (s0.map FEl.el))) := by
        have h := hR.out
        rw [List.take_of_length_le (by rw [Hml.out]; exact Nat.le_refl _)] at h
        exact h
      clear hR
      go_wp2_with fail
      go_ret
      exact ⟨_, rfl, HR3.out, hW⟩

set_option maxRecDepth 20000 in
set_option maxHeartbeats 1600000 in
theorem joinStrings_any (a0 a1 : Option Addr) (n m c0 c1 : Nat) (xs ys : List ByteArray) (w : World) (w0 : IsStrs w a0 n c0 xs) (w1 : IsStrs w a1 m c1 ys) (hn : n ≤ 2199023255552) (hm : m ≤ 2199023255552) :
    Calls Tryf.prog 32 #[.slice a0 n c0, .slice a1 m c1] w (StrPost (xs ++ ys) w) := by
  have hinfo : (Tryf.prog.info? 9).map (fun i => (i.zero, i.size, i.bytes)) = some (some (.string ByteArray.empty), 1, 16) := by kernel_rfl
  have hmk : ∀ W : World, (Instr.makeSlice 33 (.int .i64 0) (.int .i64 ((n : Int) + (m : Int)))).run Tryf.prog W = .ok (.slice (some ⟨W.heap.size, 0, none⟩) 0 (n + m)) (W.alloc (.cells (madeCells #[Value.string ByteArray.empty] (n + m)) 9)) := fun W => by
    obtain ⟨i, hi0, hz, hs, hb⟩ := info_parts hinfo
    have hr := run_make (P := Tryf.prog) W 33 9 i _ Tryf.underlying33 hi0 hz .i64 .i64 (0 : Nat) ((n + m : Nat) : Int) (by omega) (by omega) (by rw [hb]; omega) (by omega)
    rw [hs] at hr
    simp only [Int.toNat_natCast, Nat.mul_one] at hr
    have e : ((n + m : Nat) : Int) = (n : Int) + (m : Int) := by omega
    rw [e] at hr
    have e2 : (Value.string ByteArray.empty).cells = #[Value.string ByteArray.empty] := rfl
    rw [e2] at hr
    simpa using hr
  have Hinfo := Lib.hid hinfo
  have hR0 : StrR w.heap.size (w.alloc (.cells (madeCells #[Value.string ByteArray.empty] (n + m)) 9)) (.slice (some ⟨w.heap.size, 0, none⟩) 0 (n + m)) [] := ⟨World.ownsRow_made w _ (n + m) (Nat.le_refl _) (by unfold maxLen; omega) (by rw [size_madeCells]; omega), fun s hs => by simp at hs⟩
  have HR0 := Lib.hid hR0
  have H0 := Lib.hid w0
  have H1 := Lib.hid w1
  clear hinfo hR0 w0 w1
  go_enter Tryf.func32, Tryf.ntmps32
  go_wp2_with fail
  go_loopw [5, 6] (fun v5 i wq => ∃ q : Nat, q ≤ n ∧ i = .int .i64 q ∧ Hid (StrR w.heap.size wq v5 ([] ++ xs.take q)) ∧ Hid (Below w.heap.size w wq)) (fun _ i _ => n - (intOf i).toNat)
  case atStart => exact ⟨0, Nat.zero_le _, rfl, by simpa using HR0, below_alloc (Below.refl _ _) _⟩
  case round =>
    clear HR0 hmk
    obtain ⟨q, hq, rfl, hR, hW⟩ := hrel
    by_cases hlq : q < n
    · obtain ⟨b2, off2, s, rfl, hblt2, hs2, hsz, hcell2⟩ := (H0.out.keep hW.out).at_ hlq
      have hb2 : Below wr.heap.size wr (wr.alloc (.cells #[.string s] 9)) := below_alloc (Below.refl _ _) _
      have HR2 := Lib.hid (hR.out.keep hb2)
      have Hl2 : Hid (([] ++ xs.take q).length ≤ 4398046511104) := by
        have h2 := List.length_take_le q xs
        simp only [Hid, List.length_append, List.length_nil]
        omega
      have Hz2 : Hid (w.heap.size ≤ (wr.alloc (.cells #[.string s] 9)).heap.size) := by have := hW.out.size; simp [Hid]; omega
      have Hs2 := Lib.hid hs2
      have Hsz := Lib.hid hsz
      clear hs2 hsz hb2
      go_wp2_with (at_builtin; refine wpList_append_strR rfl _ _ 33 rfl Tryf.underlying33 Hinfo.out w.heap.size _ ([] ++ xs.take q) s _ 1 rfl HR2.out rfl Hsz.out (news1 wr _ _ rfl _) Hl2.out Hz2.out ?_; intro v1 w1 hR1 hg1)
      have HR3 : Hid (StrR w.heap.size w1 v1 ([] ++ xs.take (q + 1))) := by rw [← snoc_take Hs2.out]; exact hR1
      have HW3 : Hid (Below w.heap.size w w1) := below_grownS (below_alloc hW.out _) hg1 (fun g hg => (hR.out.own.lt g hg).1)
      exact ⟨⟨q + 1, by omega, by go_num, HR3, HW3⟩, by simp [intOf]; omega⟩
    · obtain rfl : q = n := by omega
      have HRx : Hid (StrR w.heap.size wr u5 xs) := by
        have h := hR.out
        rw [List.take_of_length_le (by rw [H0.out.len]; exact Nat.le_refl _)] at h
        exact h
      have HWx := hW
      clear hR hW
      go_wp2_with fail
      go_loopw [5, 7] (fun v5 i wq => ∃ q : Nat, q ≤ m ∧ i = .int .i64 q ∧ Hid (StrR w.heap.size wq v5 (xs ++ ys.take q)) ∧ Hid (Below w.heap.size w wq)) (fun _ i _ => m - (intOf i).toNat)
      case atStart => exact ⟨0, Nat.zero_le _, rfl, by simpa using HRx, HWx⟩
      case round =>
        clear HRx HWx
        obtain ⟨p, hp, rfl, hR, hW⟩ := hrel
        by_cases hlp : p < m
        · obtain ⟨b2, off2, s, rfl, hblt2, hs2, hsz, hcell2⟩ := (H1.out.keep hW.out).at_ hlp
          have hb2 : Below wr.heap.size wr (wr.alloc (.cells #[.string s] 9)) := below_alloc (Below.refl _ _) _
          have HR2 := Lib.hid (hR.out.keep hb2)
          have Hl2 : Hid ((xs ++ ys.take p).length ≤ 4398046511104) := by
            have h2 := List.length_take_le p ys
            have h3 := H0.out.len
            simp only [Hid, List.length_append]
            omega
          have Hz2 : Hid (w.heap.size ≤ (wr.alloc (.cells #[.string s] 9)).heap.size) := by have := hW.out.size; simp [Hid]; omega
          have Hs2 := Lib.hid hs2
          have Hsz := Lib.hid hsz
          clear hs2 hsz hb2
          go_wp2_with (at_builtin; refine wpList_append_strR rfl _ _ 33 rfl Tryf.underlying33 Hinfo.out w.heap.size _ (xs ++ ys.take p) s _ 1 rfl HR2.out rfl Hsz.out (news1 wr _ _ rfl _) Hl2.out Hz2.out ?_; intro v1 w1 hR1 hg1)
          have HR3 : Hid (StrR w.heap.size w1 v1 (xs ++ ys.take (p + 1))) := by rw [← snoc_take Hs2.out]; exact hR1
          have HW3 : Hid (Below w.heap.size w w1) := below_grownS (below_alloc hW.out _) hg1 (fun g hg => (hR.out.own.lt g hg).1)
          exact ⟨⟨p + 1, by omega, by go_num, HR3, HW3⟩, by simp [intOf]; omega⟩
        · obtain rfl : p = m := by omega
          have HR3 : Hid (StrR w.heap.size wr u5 (xs ++ ys)) := by
            have h := hR.out
            rw [List.take_of_length_le (by rw [H1.out.len]; exact Nat.le_refl _)] at h
            exact h
          have HW3 := hW
          clear hR hW
          go_wp2_with fail
          go_ret
          exact ⟨_, rfl, HR3.out, HW3.out⟩
theorem flatten_fod {T base : Nat} {w : World} {v : Value} {ls : List El} (h : Fodd 9 T base w v ls) (hn : ls.length ≤ 4194304) (hs : Sh ls) : Calls Tryf.prog 31 #[v] w (StrPost (flat ls) w) := by
  obtain ⟨a, cap, fs, rfl, hI, rfl, _, _⟩ := h.form
  exact flatten_any _ _ _ fs w hI hn hs
theorem joinStrings_r {b b' : Nat} {w : World} {v v' : Value} {xs ys : List ByteArray} (h : StrR b w v xs) (h' : StrR b' w v' ys) (hn : xs.length ≤ 2199023255552) (hm : ys.length ≤ 2199023255552) : Calls Tryf.prog 32 #[v, v'] w (StrPost (xs ++ ys) w) := by
  obtain ⟨a, cap, rfl, hI⟩ := h.form
  obtain ⟨a', cap', rfl, hI'⟩ := h'.form
  exact joinStrings_any _ _ _ _ _ _ xs ys w hI hI' hn hm
theorem sameStrings_r {b b' : Nat} {w : World} {v v' : Value} {ss : List ByteArray} (h : StrR b w v ss) (h' : StrR b' w v' ss) : Calls Tryf.prog 30 #[v, v'] w (YesB w) := by
  obtain ⟨a, cap, rfl, hI⟩ := h.form
  obtain ⟨a', cap', rfl, hI'⟩ := h'.form
  exact (sameStrings_yes _ _ _ _ _ ss w hI hI').mono fun e w' ⟨he, m, hm⟩ => ⟨he, by rw [hm]; exact below_drewN (Below.refl _ _) _⟩
end Go.Proofs.YtnagdbnfdedejaaFmt
