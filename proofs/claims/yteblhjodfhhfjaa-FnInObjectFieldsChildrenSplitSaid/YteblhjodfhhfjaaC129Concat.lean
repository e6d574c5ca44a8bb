/- zzConcat: one row of nodes behind the other, in a row of its own. -/
import Derived.Test.YteblhjodfhhfjaaNodes
namespace Go.Proofs.Yteblhjodfhhfjaa
open Go.ChangeShapes Go.WideShapes Go.ChangeAt Go.RowKit
set_option linter.unusedVariables false

theorem below_app {w w1 w' : World} {o : Obj} {g : Nat} (hb : Below w.heap.size w w1) (hg : (w1.alloc o).grownBy w' (some g)) (hge : w.heap.size ≤ g) : Below w.heap.size w w' :=
  (below_alloc hb o).trans ⟨hg.os, hg.tape, hg.output, hg.size, fun k hk => hg.block k (by have := hb.size; simp; omega) (fun e => by injection e with e; omega)⟩

set_option maxHeartbeats 1600000 in
theorem concat_any (ga ca gb cb b1 b2 n1 n2 : Nat) (la lb : List Value) (w : World) (e1 : n1 = la.length) (e2 : n2 = lb.length) (h1 : Nds w b1 ga ca la) (h2 : Nds w b2 gb cb lb) (hl1 : n1 ≤ 524288) (hl2 : n2 ≤ 524288) :
    Calls Try.prog 9 #[.slice (some ⟨ga, 0, none⟩) n1 ca, .slice (some ⟨gb, 0, none⟩) n2 cb] w fun e w' => ∃ g cp, e = .returned (.slice (some ⟨g, 0, none⟩) (n1 + n2) cp) ∧ Nds w' w.heap.size g cp (la ++ lb) ∧ Below w.heap.size w w' := by
  have hmk : ∀ W, (Instr.makeSlice 27 (.int .i64 0) (.int .i64 ((n1 : Int) + (n2 : Int)))).run Try.prog W = .ok (.slice (some ⟨W.heap.size, 0, none⟩) 0 (n1 + n2)) (W.alloc (.cells (List.replicate (n1 + n2) Value.nilIface).toArray 35)) := by
    intro W
    have h := make_nodes0 (P := Try.prog) Try.underlying27 (by kernel_rfl) (n1 + n2) (by omega) W
    rwa [Int.natCast_add] at h
  have H1 := Lib.hid e1
  have H2 := Lib.hid e2
  clear e1 e2
  go_enter Try.func9, Try.ntmps9
  go_wp2_with fail
  clear hmk
  go_loopw [5, 6] (fun v i wr => ∃ k G cp : Nat, k ≤ n1 ∧ v = .slice (some ⟨G, 0, none⟩) k cp ∧ i = .int .i64 k ∧ Nds wr w.heap.size G cp (la.take k) ∧ Below w.heap.size w wr) (fun _ i _ => n1 - (intOf i).toNat)
  case atStart => exact ⟨0, _, _, Nat.zero_le _, rfl, rfl, nds_new w (n1 + n2) _ (Nat.le_refl _) (by unfold maxLen; omega), below_alloc (Below.refl _ _) _⟩
  case round =>
    obtain ⟨k, G, cp, hk, rfl, rfl, hN, hbel⟩ := hrel
    by_cases hlt : k < n1
    · have hu := List.getElem?_eq_getElem (show k < la.length by rw [← H1.out]; exact hlt)
      obtain ⟨u, hu'⟩ : ∃ u, u = la[k]'(by rw [← H1.out]; exact hlt) := ⟨_, rfl⟩
      rw [← hu'] at hu
      have hnode := h1.nodes u (List.mem_of_getElem? hu)
      have q1 := (h1.below hbel).cell hu
      have Hu := Lib.hid hu
      have HN := Lib.hid hN
      have Hbel := Lib.hid hbel
      have hlt' : (k : Int) < (n1 : Int) := by omega
      have hge := hN.base
      have hsz := hbel.size
      clear hu hu' hN hbel
      cases hnode
      all_goals
        go_wp2_with (at_builtin; refine wpList_append_node rfl _ _ 27 rfl Try.underlying27 (by kernel_rfl) w.heap.size G cp _ _ _ (by first | exact IsNode.leaf _ | exact IsNode.fn _) _ _ (by rw [List.length_take, ← H1.out]; omega) rfl (HN.out.below (below_alloc (Below.refl _ _) _)) rfl ((Blk.new _ _ _).cell 0) (by omega) (by simp; omega) ?_; intro g' cp' w5 hN5 hg5 hl5)
        have Hb5 : Hid (Below w.heap.size w w5) := below_app Hbel.out hg5 hge
        have HN5 : Hid (Nds w5 w.heap.size g' cp' (la.take (k + 1))) := Lib.hid (by rw [List.take_add_one, Hu.out]; simpa using hN5)
        clear hg5 hN5 hl5
        go_wp2_with fail
        go_roundw
        case rel => exact ⟨k + 1, g', cp', by omega, by simp, by go_num, HN5, Hb5⟩
        case measure => simp [intOf]; omega
    · obtain rfl : k = n1 := by omega
      have hN0 : Nds wr w.heap.size G cp (la ++ lb.take 0) := by
        rw [List.take_zero, List.append_nil]
        rwa [H1.out, List.take_length] at hN
      clear hN
      obtain ⟨W0, hW0⟩ : ∃ z, z = wr := ⟨_, rfl⟩
      subst hW0
      go_wp2_with fail
      go_loopw [5, 7] (fun v i wr => ∃ m G cp : Nat, m ≤ n2 ∧ v = .slice (some ⟨G, 0, none⟩) (k + m) cp ∧ i = .int .i64 m ∧ Nds wr w.heap.size G cp (la ++ lb.take m) ∧ Below w.heap.size w wr) (fun _ i _ => n2 - (intOf i).toNat)
      case atStart => exact ⟨0, _, _, Nat.zero_le _, rfl, rfl, hN0, hbel⟩
      case round =>
        clear hN0 hbel
        obtain ⟨m, G, cp, hm, rfl, rfl, hN, hbel⟩ := hrel
        by_cases hlt2 : m < n2
        · have hu := List.getElem?_eq_getElem (show m < lb.length by rw [← H2.out]; exact hlt2)
          obtain ⟨u, hu'⟩ : ∃ u, u = lb[m]'(by rw [← H2.out]; exact hlt2) := ⟨_, rfl⟩
          rw [← hu'] at hu
          have hnode := h2.nodes u (List.mem_of_getElem? hu)
          have q1 := (h2.below hbel).cell hu
          have Hu := Lib.hid hu
          have HN := Lib.hid hN
          have Hbel := Lib.hid hbel
          have hlt' : (m : Int) < (n2 : Int) := by omega
          have hge := hN.base
          have hsz := hbel.size
          clear hu hu' hN hbel
          cases hnode
          all_goals
            go_wp2_with (at_builtin; refine wpList_append_node rfl _ _ 27 rfl Try.underlying27 (by kernel_rfl) w.heap.size G cp _ _ _ (by first | exact IsNode.leaf _ | exact IsNode.fn _) _ _ (by rw [List.length_append, List.length_take, ← H1.out, ← H2.out]; omega) rfl (HN.out.below (below_alloc (Below.refl _ _) _)) rfl ((Blk.new _ _ _).cell 0) (by omega) (by simp; omega) ?_; intro g' cp' w5 hN5 hg5 hl5)
            have Hb5 : Hid (Below w.heap.size w w5) := below_app Hbel.out hg5 hge
            have HN5 : Hid (Nds w5 w.heap.size g' cp' (la ++ lb.take (m + 1))) := Lib.hid (by rw [List.take_add_one, Hu.out]; simpa using hN5)
            clear hg5 hN5 hl5
            go_wp2_with fail
            go_roundw
            case rel => exact ⟨m + 1, g', cp', by omega, by simp [Nat.add_assoc], by go_num, HN5, Hb5⟩
            case measure => simp [intOf]; omega
        · obtain rfl : m = n2 := by omega
          have HN : Hid (Nds wr w.heap.size G cp (la ++ lb)) := by
            rwa [H2.out, List.take_length] at hN
          clear hN
          go_wp2_with fail
          go_ret
          exact ⟨G, cp, rfl, HN, hbel⟩
end Go.Proofs.Yteblhjodfhhfjaa
