/- zzSameNodes answers true of two rows of the same nodes; zzConcat lays one behind the other. -/
import Derived.Test.YteblhjodfhhfjaaNodes
namespace Go.Proofs.Yteblhjodfhhfjaa
open Go.ChangeShapes Go.WideShapes Go.ChangeAt Go.RowKit
set_option linter.unusedVariables false

set_option maxHeartbeats 800000 in
theorem sameNodes_yes (g c g2 c2 b b2 n : Nat) (l : List Value) (w : World) (hn : n = l.length) (h1 : Nds w b g c l) (h2 : Nds w b2 g2 c2 l) (hl : n ≤ 1048576) :
    Calls Try.prog 8 #[.slice (some ⟨g, 0, none⟩) n c, .slice (some ⟨g2, 0, none⟩) n c2] w fun e w' => e = .returned (.bool true) ∧ Below w.heap.size w w' := by
  go_enter Try.func8, Try.ntmps8
  go_wp2_with fail
  go_loopw [5] (fun i wr => ∃ k m : Nat, k ≤ n ∧ i = .int .i64 k ∧ wr = w.drewN m) (fun i _ => n - (intOf i).toNat)
  case atStart => exact ⟨0, 0, Nat.zero_le _, rfl, rfl⟩
  case round =>
    obtain ⟨k, m, hk, rfl, rfl⟩ := hrel
    by_cases hlt : k < n
    · have hu := List.getElem?_eq_getElem (show k < l.length by omega)
      obtain ⟨u, hu'⟩ : ∃ u, u = l[k]'(by omega) := ⟨_, rfl⟩
      rw [← hu'] at hu
      have hnode := h1.nodes u (List.mem_of_getElem? hu)
      have q1 := h1.cell hu
      have q2 := h2.cell hu
      have hlt' : (k : Int) < (n : Int) := by omega
      have hk0 : (0 : Int) ≤ (k : Int) := by omega
      have e1 := fun W a => neq_same' (P := Try.prog) (ti := 35) (tp := 59) W a Try.underlying35 Try.underlying59 (by kernel_rfl) (by kernel_rfl)
      have e2 := fun W a => neq_same' (P := Try.prog) (ti := 35) (tp := 37) W a Try.underlying35 Try.underlying37 (by kernel_rfl) (by kernel_rfl)
      clear hu hu'
      cases hnode
      all_goals
        go_wp2_with fail
        go_quiet (fail)
        go_wp2_with fail
        go_roundw
        case rel => exact ⟨k + 1, _, by omega, by go_num, rfl⟩
        case measure => simp [intOf]; omega
    · obtain rfl : k = n := by omega
      go_wp2_with fail
      go_ret
      exact ⟨rfl, below_drewN (Below.refl _ _) _⟩
end Go.Proofs.Yteblhjodfhhfjaa
