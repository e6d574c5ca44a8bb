/- identifierSorter's three methods, as sort.Sort asks for them. -/
import Derived.Test.YtfefapadffmdlaaCommon
import Derived.Test.YtfefapadffmdlaaChecked
import Derived.Shelf.GgSortMore.Iface
import Derived.RegionTactic
import Derived.Sort.EncStr
import Derived.Sort.LotA
namespace Go.Proofs.Ytfefapadffmdlaa
open Go.Shelf Go.RowKit Go.Lib Go.Sort
set_option linter.unusedVariables false

theorem ids_less_reached (p : Option Addr) (n c : Nat) : Reaches Try.prog 47 (.slice p n c) "Less" 66 := ⟨fun _ => by kernel_rfl, enters_of Try.func66 (by kernel_rfl) rfl⟩
theorem ids_swap_reached (p : Option Addr) (n c : Nat) : Reaches Try.prog 47 (.slice p n c) "Swap" 67 := ⟨fun _ => by kernel_rfl, enters_of Try.func67 (by kernel_rfl) rfl⟩
theorem ids_len_reached (p : Option Addr) (n c : Nat) : Reaches Try.prog 47 (.slice p n c) "Len" 65 := ⟨fun _ => by kernel_rfl, enters_of Try.func65 (by kernel_rfl) rfl⟩

/-- '<' on strings is the lexical order of their bytes. -/
theorem less_is (x : List UInt8) : ∀ y : List UInt8, Op.bytesLess x y = ltStr x y := by
  unfold ltStr
  induction x with
  | nil =>
    intro y
    cases y <;> simp [Op.bytesLess]
  | cons a x ih =>
    intro y
    cases y with
    | nil => simp [Op.bytesLess]
    | cons b y =>
      rw [Op.bytesLess, ih y]
      by_cases h1 : a < b <;> by_cases h2 : a = b <;> by_cases h3 : x < y <;> simp [List.cons_lt_cons_iff, h1, h2, h3]

set_option maxHeartbeats 2000000 in
theorem ids_Less (blk off c size : Nat) (W : World) (G : Nat → List UInt8) (hc : ∀ t, t < size → W.cell? ⟨blk, off + t, none⟩ = some (encStr (G t))) (i j : Nat) (hi : i < size) (hj : j < size) (hsz : size < 4611686018427387904) :
    Calls Try.prog 66 #[.slice (some ⟨blk, off, none⟩) size c, .int .i64 i, .int .i64 j] W fun e w' => e = .returned (.bool (ltStr (G i) (G j))) ∧ ∃ q, w' = W.drewN q := by
  have ci := hc i hi
  have cj := hc j hj
  unfold encStr at ci cj
  have hi' : (i : Int) < (size : Int) := by omega
  have hj' : (j : Int) < (size : Int) := by omega
  have hi0 : (0 : Int) ≤ (i : Int) := by omega
  have hj0 : (0 : Int) ≤ (j : Int) := by omega
  go_enter Try.func66, Try.ntmps66
  go_wp2
  go_quiet (fail)
  go_wp2
  go_ret
  refine ⟨?_, nq, rfl⟩
  rw [← less_is]
  rfl

set_option maxHeartbeats 2000000 in
theorem ids_Swap (blk off c size : Nat) (W : World) (x y : List UInt8) (i j : Nat) (hi : i < size) (hj : j < size) (_hsz : size < 4611686018427387904)
    (ci : W.cell? ⟨blk, off + i, none⟩ = some (encStr x)) (cj : W.cell? ⟨blk, off + j, none⟩ = some (encStr y)) (fi : W.frozen? ⟨blk, off + i, none⟩ = false) (fj : W.frozen? ⟨blk, off + j, none⟩ = false) :
    Calls Try.prog 67 #[.slice (some ⟨blk, off, none⟩) size c, .int .i64 i, .int .i64 j] W fun e w' => e = .returned (.tuple #[]) ∧ ∃ q, w' = ((W.setCell ⟨blk, off + i, none⟩ (encStr y)).setCell ⟨blk, off + j, none⟩ (encStr x)).drewN q := by
  obtain ⟨v', hy'⟩ := cell?_setCell_some (w := W) (p := ⟨blk, off + i, none⟩) (x := encStr y) (q := ⟨blk, off + j, none⟩) cj
  unfold encStr at ci cj hy' ⊢
  go_enter Try.func67, Try.ntmps67
  go_wp2
  go_region
  all_goals (try go_wp2)
  all_goals go_end0
  all_goals exact ⟨rfl, 1, rfl⟩

theorem ids_LessM (blk off c : Nat) (d : Array (List UInt8)) (w : World) (hH : Holds encStr w blk off d) (hblk : blk < w.heap.size) (hsz : d.size < 4611686018427387904) :
    LessM Try.prog 66 (.slice (some ⟨blk, off, none⟩) d.size c) encStr ltStr blk off d.size w := fun m os dk hs i j hi hj =>
  ids_Less blk off c d.size _ (fun t => dk[t]!) (fun t ht => ((holds_sortWorld encStr w blk off m d dk os hblk hH hs) t (by omega)).1) i j hi hj hsz
theorem ids_SwapM (blk off c size : Nat) (hsz : size < 4611686018427387904) : SwapM Try.prog 67 (.slice (some ⟨blk, off, none⟩) size c) encStr blk off size := fun W dk hH hs i j hi hj =>
  ids_Swap blk off c size W dk[i]! dk[j]! i j hi hj hsz (hH i (by omega)).1 (hH j (by omega)).1 (hH i (by omega)).2 (hH j (by omega)).2
end Go.Proofs.Ytfefapadffmdlaa
