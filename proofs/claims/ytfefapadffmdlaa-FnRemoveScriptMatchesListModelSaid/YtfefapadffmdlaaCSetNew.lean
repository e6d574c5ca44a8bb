/- The sets' methods, over a set that is known as a list. -/
import Derived.Test.YtfefapadffmdlaaSetLib
import Derived.Test.YtfefapadffmdlaaCSetLaw
import Derived.StringKeys
import Derived.Test.YtfefapadffmdlaaChecked
namespace Go.Proofs.Ytfefapadffmdlaa
open Go.ChangeShapes Go.WideShapes Go.ChangeAt Go.RowKit Go.Maps
set_option linter.unusedVariables false

set_option maxHeartbeats 400000 in
theorem newSet_any (a0 : Option Addr) (n c0 : Nat) (ss : List ByteArray) (w : World) (w0 : IsStrs w a0 n c0 ss) (hl : n ≤ 1048576) :
    Calls Try.prog 14 #[.slice a0 n c0] w fun e w' => e = .returned (.map (some w.heap.size)) ∧ IsSet Try.prog 34 w' w.heap.size (addAll [] ss) ∧ Below w.heap.size w w' := by
  have hset := isSet_made Try.prog 34 w
  have hbm := below_alloc (Below.refl w.heap.size w) (.map #[] 0)
  have hmm := run_makeMap_plain (P := Try.prog) (w := w) 30
  go_enter Try.func14, Try.ntmps14
  go_wp2
  go_loopw [9] (fun i wr => ∃ k : Nat, k ≤ n ∧ i = .int .i64 k ∧ IsSet Try.prog 34 wr w.heap.size (addAll [] (ss.take k)) ∧ Below w.heap.size w wr) (fun i _ => n - (intOf i).toNat)
  case atStart => exact ⟨0, Nat.zero_le _, rfl, hset, hbm⟩
  case round =>
    obtain ⟨k, hk, rfl, hS, hB⟩ := hrel
    clear hset hbm
    by_cases hlt : k < n
    · have hst' := w0.keep hB
      obtain ⟨b, off, s, rfl, hblt, hs, hsz, hcell⟩ := hst'.at_ hlt
      have Hstep := Lib.hid (addAll_take (acc := []) hs)
      have hlen : (addAll [] (ss.take k)).length ≤ k := by have := addAll_le (ss := ss.take k) (acc := []); simp at this; omega
      clear hs hst'
      go_wp2_with (at_mapUpdate; refine wpList_mapUpdate_set rfl _ _ _ 30 rfl 34 42 lawK Try.underlying30 _ _ rfl (by assumption) (by unfold maxLen; omega) _ rfl rfl (keyK (by assumption)) ?_; intro w1 hset1 hgrow1)
      rw [← Hstep.out] at hset1
      exact ⟨⟨k + 1, by omega, by go_num, hset1, below_grown hB hgrow1 (Nat.le_refl _)⟩, by simp [intOf]; omega⟩
    · obtain rfl : k = n := by omega
      have hall : ss.take k = ss := List.take_of_length_le (by rw [w0.len]; exact Nat.le_refl _)
      rw [hall] at hS
      clear hall
      go_wp2
      go_ret
      exact ⟨rfl, hS, hB⟩
end Go.Proofs.Ytfefapadffmdlaa
