/- inObjectFieldsChildren: per field the method, or else Expr2 and Expr3 where they are set. -/
import Derived.Test.YteblhjodfhhfjaaC129Flds
namespace Go.Proofs.Yteblhjodfhhfjaa
open Go.ChangeShapes Go.WideShapes Go.ChangeAt Go.RowKit
set_option linter.unusedVariables false

/-- The row of nodes at block G reads as l; what was there before w is as it was. -/
structure KSt (w : World) (G cp m : Nat) (l : List Value) (W : World) : Prop where
  len : m = l.length
  nds : Nds W w.heap.size G cp l
  bel : Below w.heap.size w W
theorem KSt.keep {w W W' : World} {G cp m : Nat} {l : List Value} (h : KSt w G cp m l W) (hb : Below W.heap.size W W') : KSt w G cp m l W' := ⟨h.len, h.nds.below hb, below_trans h.bel hb⟩
theorem KSt.app {w W W' : World} {o : Obj} {G cp g' cp' m : Nat} {l : List Value} {y : Value} (h : KSt w G cp m l W) (hN : Nds W' w.heap.size g' cp' (l ++ [y])) (hg : (W.alloc o).grownBy W' (some G)) : KSt w g' cp' (m + 1) (l ++ [y]) W' :=
  ⟨by rw [h.len]; simp, hN, (below_alloc h.bel o).trans ⟨hg.os, hg.tape, hg.output, hg.size, fun k hk => hg.block k (by have := h.bel.size; simp; omega) (fun e => by injection e with e; have := h.nds.base; omega)⟩⟩
theorem KSt.size {w W : World} {G cp m : Nat} {l : List Value} (h : KSt w G cp m l W) : w.heap.size ≤ W.heap.size := h.bel.size
/-- A cell of another block behind the append. -/
theorem cell_app {W W' : World} {o : Obj} {G B j : Nat} {u : Value} (hg : (W.alloc o).grownBy W' (some G)) (hne : B ≠ G) (h : W.cell? ⟨B, j, none⟩ = some u) : W'.cell? ⟨B, j, none⟩ = some u := by
  have hlt : B < W.heap.size := lt_of_cell h
  rw [World.cell?_of_block (a := ⟨B, j, none⟩) ((hg.block B (by simp; omega) (fun e => hne (by injection e))).trans (Below.heap_alloc W o B hlt))]
  exact h
theorem kids_take {fs : List (List Value)} {k0 k : Nat} {f : List Value} (hf : fs[k0 + k]? = some f) : ((fs.drop k0).take (k + 1)).flatMap kids = ((fs.drop k0).take k).flatMap kids ++ kids f := by
  rw [List.take_add_one, List.getElem?_drop, hf]
  simp

set_option maxHeartbeats 1600000 in
theorem kids_any (b k0 n cap : Nat) (fs : List (List Value)) (w : World) (h : Flds w b fs) (hk : k0 + n ≤ fs.length) (hl : n ≤ 65536) :
    Calls Try.prog 11 #[.slice (some ⟨b, k0 * 18, none⟩) n cap] w fun e w' => ∃ g cp m, e = .returned (.slice (some ⟨g, 0, none⟩) m cp) ∧ KSt w g cp m (((fs.drop k0).take n).flatMap kids) w' := by
  obtain ⟨ks, hks⟩ : ∃ ks : Nat → List Value, ks = fun k => ((fs.drop k0).take k).flatMap kids := ⟨_, rfl⟩
  have H0 : ks 0 = [] := by rw [hks]; simp
  have Hs : Hid (∀ k f, fs[k0 + k]? = some f → ks (k + 1) = ks k ++ kids f) := by
    intro k f hf; rw [hks]; exact kids_take hf
  have Hn : Hid (∀ k, k ≤ n → (ks k).length ≤ 2 * k) := by
    intro k hkn
    rw [hks]
    have h1 := kids_all_len (fs := (fs.drop k0).take k) (fun f hf => h.ok f (List.mem_of_mem_drop (List.mem_of_mem_take hf)))
    have h2 := List.length_take_le k (fs.drop k0)
    show (((fs.drop k0).take k).flatMap kids).length ≤ 2 * k
    omega
  have He : Hid (((fs.drop k0).take n).flatMap kids = ks n) := by rw [hks]; rfl
  rw [He.out]
  clear He hks
  have hst : KSt w w.heap.size 0 0 (ks 0) (w.alloc (.cells (List.replicate 0 Value.nilIface).toArray 35)) := by
    rw [H0]; exact ⟨rfl, nds_new w 0 _ (Nat.le_refl _) (by unfold maxLen; omega), below_alloc (Below.refl _ _) _⟩
  clear H0
  go_enter Try.func11, Try.ntmps11
  go_wp2_with fail
  go_loopw [3, 9] (fun v i wr => ∃ k G cp m : Nat, k ≤ n ∧ v = .slice (some ⟨G, 0, none⟩) m cp ∧ i = .int .i64 k ∧ KSt w G cp m (ks k) wr) (fun _ i _ => n - (intOf i).toNat)
  case atStart => exact ⟨0, _, _, _, Nat.zero_le _, rfl, rfl, hst⟩
  case round =>
    clear hst
    obtain ⟨k, G, cp, m, hk, rfl, rfl, hK⟩ := hrel
    by_cases hlt : k < n
    · obtain ⟨f, hf⟩ : ∃ f, fs[k0 + k]? = some f := ⟨_, List.getElem?_eq_getElem (by omega)⟩
      have hfo := h.ok f (List.mem_of_getElem? hf)
      have hrg : wr.rangeAt b (k0 * 18 + k * 18) f := by
        have := (h.below hK.bel).range hf
        rwa [Nat.add_mul] at this
      have Hflen := Lib.hid hfo.len
      have Hfone := Lib.hid hfo.one
      have Hst := Lib.hid (Hs.out k f hf)
      have hm : m ≤ 131072 := by have h1 := Hn.out k hk; have h2 := hK.len; omega
      have hG := hK.nds.base
      have HGlt := Lib.hid hK.nds.lt
      have hsz := hK.size
      have HK := Lib.hid hK
      have HG0 : Hid (wr.heap.size ≠ G) := by have := HGlt.out; simp [Hid]; omega
      rcases hfo.m with hm0 | ⟨a0, hm0⟩
      · obtain ⟨v2, h2, hv2⟩ := hfo.e2
        obtain ⟨v3, h3, hv3⟩ := hfo.e3
        have Hkids : Hid (ks (k + 1) = ks k ++ (kid (some v2) ++ kid (some v3))) := by show _ = _; rw [Hst.out, kids_e hm0, h2, h3]
        have H7 := Lib.hid (show f.toArray[7]? = some v2 by simpa using h2)
        have H8 := Lib.hid (show f.toArray[8]? = some v3 by simpa using h3)
        have H00 := Lib.hid (show f.toArray[0]? = some (.pointer none) by simpa using hm0)
        clear h2 h3 hm0 Hst hfo hf hK
        rcases hv2 with rfl | ⟨a2, rfl⟩ <;> rcases hv3 with rfl | ⟨a3, rfl⟩
        · go_wp2_with (with_reducible refine at_field ?_; refine wpList_field rfl rfl rfl _ _ _ rfl rfl rfl rfl (by kernel_rfl) (by kernel_rfl) b (k0 * 18 + k * 18) rfl (fun _ _ => rfl) (fun _ _ => rfl) f Hflen.out Hfone.out hrg ?_; intro w5 hb5 hB5; have c0 := (hB5.cell 0).trans H00.out; have c7 := (hB5.cell 7).trans H7.out; have c8 := (hB5.cell 8).trans H8.out; have HK5 := Lib.hid (HK.out.keep hb5); have hsz5 := HK5.out.size; clear hb5 hB5)
          have HKe : Hid (KSt w G cp m (ks (k + 1)) w5) := by rw [Hkids.out, kid_nil, List.append_nil, List.append_nil]; exact HK5.out
          refine ⟨⟨k + 1, G, cp, m, by omega, rfl, by go_num, HKe.out⟩, by simp [intOf]; omega⟩
        · go_wp2_with (first | (with_reducible refine at_field ?_; refine wpList_field rfl rfl rfl _ _ _ rfl rfl rfl rfl (by kernel_rfl) (by kernel_rfl) b (k0 * 18 + k * 18) rfl (fun _ _ => rfl) (fun _ _ => rfl) f Hflen.out Hfone.out hrg ?_; intro w5 hb5 hB5; have c0 := (hB5.cell 0).trans H00.out; have c7 := (hB5.cell 7).trans H7.out; have c8 := (hB5.cell 8).trans H8.out; have HK5 := Lib.hid (HK.out.keep hb5); have hsz5 := HK5.out.size; clear hb5 hB5) | (at_builtin; refine wpList_append_node rfl _ _ 30 rfl Try.underlying30 (by kernel_rfl) w.heap.size G cp m (ks k) _ (IsNode.leaf _) _ _ HK5.out.len rfl (HK5.out.nds.below (below_alloc (Below.refl _ _) _)) rfl ((Blk.new _ _ _).cell 0) (by omega) (by simp; omega) ?_; intro g6 cp6 w6 hN6 hg6 hl6; have HK6 := Lib.hid (HK5.out.app hN6 hg6); have hsz6 := HK6.out.size; have hG6 := HK6.out.nds.base; clear hN6 hg6 hl6 HK5))
          have HKe : Hid (KSt w g6 cp6 (m + 1) (ks (k + 1)) w6) := by rw [Hkids.out, kid_nil, List.nil_append, kid_leaf]; exact HK6.out
          refine ⟨⟨k + 1, g6, cp6, m + 1, by omega, rfl, by go_num, HKe.out⟩, by simp [intOf]; omega⟩
        · go_wp2_with (first | (with_reducible refine at_field ?_; refine wpList_field rfl rfl rfl _ _ _ rfl rfl rfl rfl (by kernel_rfl) (by kernel_rfl) b (k0 * 18 + k * 18) rfl (fun _ _ => rfl) (fun _ _ => rfl) f Hflen.out Hfone.out hrg ?_; intro w5 hb5 hB5; have c0 := (hB5.cell 0).trans H00.out; have c7 := (hB5.cell 7).trans H7.out; have c8 := (hB5.cell 8).trans H8.out; have HK5 := Lib.hid (HK.out.keep hb5); have hsz5 := HK5.out.size; clear hb5 hB5) | (at_builtin; refine wpList_append_node rfl _ _ 30 rfl Try.underlying30 (by kernel_rfl) w.heap.size G cp m (ks k) _ (IsNode.leaf _) _ _ HK5.out.len rfl (HK5.out.nds.below (below_alloc (Below.refl _ _) _)) rfl ((Blk.new _ _ _).cell 0) (by omega) (by simp; omega) ?_; intro g6 cp6 w6 hN6 hg6 hl6; have c8' := cell_app hg6 HG0.out c8; have HK6 := Lib.hid (HK5.out.app hN6 hg6); have hsz6 := HK6.out.size; have hG6 := HK6.out.nds.base; clear hN6 hg6 hl6 HK5))
          have HKe : Hid (KSt w g6 cp6 (m + 1) (ks (k + 1)) w6) := by rw [Hkids.out, kid_nil, List.append_nil, kid_leaf]; exact HK6.out
          refine ⟨⟨k + 1, g6, cp6, m + 1, by omega, rfl, by go_num, HKe.out⟩, by simp [intOf]; omega⟩
        · go_wp2_with (first | (with_reducible refine at_field ?_; refine wpList_field rfl rfl rfl _ _ _ rfl rfl rfl rfl (by kernel_rfl) (by kernel_rfl) b (k0 * 18 + k * 18) rfl (fun _ _ => rfl) (fun _ _ => rfl) f Hflen.out Hfone.out hrg ?_; intro w5 hb5 hB5; have c0 := (hB5.cell 0).trans H00.out; have c7 := (hB5.cell 7).trans H7.out; have c8 := (hB5.cell 8).trans H8.out; have HK5 := Lib.hid (HK.out.keep hb5); have hsz5 := HK5.out.size; clear hb5 hB5) | (at_builtin; refine wpList_append_node rfl _ _ 30 rfl Try.underlying30 (by kernel_rfl) w.heap.size G cp m (ks k) _ (IsNode.leaf _) _ _ HK5.out.len rfl (HK5.out.nds.below (below_alloc (Below.refl _ _) _)) rfl ((Blk.new _ _ _).cell 0) (by omega) (by simp; omega) ?_; intro g6 cp6 w6 hN6 hg6 hl6; have c8' := cell_app hg6 HG0.out c8; have HK6 := Lib.hid (HK5.out.app hN6 hg6); have hsz6 := HK6.out.size; have hG6 := HK6.out.nds.base; clear hN6 hg6 hl6 HK5) | (at_builtin; refine wpList_append_node rfl _ _ 30 rfl Try.underlying30 (by kernel_rfl) w.heap.size g6 cp6 (m + 1) _ _ (IsNode.leaf _) _ _ HK6.out.len rfl (HK6.out.nds.below (below_alloc (Below.refl _ _) _)) rfl ((Blk.new _ _ _).cell 0) (by omega) (by simp; omega) ?_; intro g7 cp7 w7 hN7 hg7 hl7; have HK7 := Lib.hid (HK6.out.app hN7 hg7); have hsz7 := HK7.out.size; have hG7 := HK7.out.nds.base; clear hN7 hg7 hl7 HK6))
          have HKe : Hid (KSt w g7 cp7 (m + 1 + 1) (ks (k + 1)) w7) := by rw [Hkids.out, kid_leaf, kid_leaf, ← List.append_assoc]; exact HK7.out
          refine ⟨⟨k + 1, g7, cp7, m + 1 + 1, by omega, rfl, by go_num, HKe.out⟩, by simp [intOf]; omega⟩
      · have Hkids : Hid (ks (k + 1) = ks k ++ [.iface 37 (.pointer (some a0))]) := by show _ = _; rw [Hst.out, kids_m hm0]
        have H00 := Lib.hid (show f.toArray[0]? = some (.pointer (some a0)) by simpa using hm0)
        clear hm0 Hst hfo hf hK
        go_wp2_with (first | (with_reducible refine at_field ?_; refine wpList_field rfl rfl rfl _ _ _ rfl rfl rfl rfl (by kernel_rfl) (by kernel_rfl) b (k0 * 18 + k * 18) rfl (fun _ _ => rfl) (fun _ _ => rfl) f Hflen.out Hfone.out hrg ?_; intro w5 hb5 hB5; have c0 := (hB5.cell 0).trans H00.out; have HK5 := Lib.hid (HK.out.keep hb5); have hsz5 := HK5.out.size; clear hb5 hB5) | (at_builtin; refine wpList_append_node rfl _ _ 30 rfl Try.underlying30 (by kernel_rfl) w.heap.size G cp m (ks k) _ (IsNode.fn _) _ _ HK5.out.len rfl (HK5.out.nds.below (below_alloc (Below.refl _ _) _)) rfl ((Blk.new _ _ _).cell 0) (by omega) (by simp; omega) ?_; intro g6 cp6 w6 hN6 hg6 hl6; have HK6 := Lib.hid (HK5.out.app hN6 hg6); have hsz6 := HK6.out.size; have hG6 := HK6.out.nds.base; clear hN6 hg6 hl6 HK5))
        have HKe : Hid (KSt w g6 cp6 (m + 1) (ks (k + 1)) w6) := by rw [Hkids.out]; exact HK6.out
        refine ⟨⟨k + 1, g6, cp6, m + 1, by omega, rfl, by go_num, HKe.out⟩, by simp [intOf]; omega⟩
    · obtain rfl : k = n := by omega
      have HK := Lib.hid hK
      clear hK
      go_wp2_with fail
      go_ret
      exact ⟨G, cp, m, rfl, HK.out⟩
end Go.Proofs.Yteblhjodfhhfjaa
