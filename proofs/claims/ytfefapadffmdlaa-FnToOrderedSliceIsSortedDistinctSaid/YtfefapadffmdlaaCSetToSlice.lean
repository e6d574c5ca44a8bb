/- ToSlice: the set's strings, each once, in some order. -/
import Derived.Test.YtfefapadffmdlaaSetRange
import Derived.Test.YtfefapadffmdlaaCSetLaw
import Derived.Test.YtfefapadffmdlaaChecked
namespace Go.Proofs.Ytfefapadffmdlaa
open Go.ChangeShapes Go.WideShapes Go.ChangeAt Go.RowKit Go.Maps
set_option linter.unusedVariables false

set_option maxHeartbeats 400000 in
theorem toSlice_any (b : Nat) (acc : List ByteArray) (w : World) (h : IsSet Try.prog 34 w b acc) (hl : acc.length ≤ 1048576) :
    Calls Try.prog 28 #[.map (some b)] w fun e w' => ∃ out : List ByteArray, e = .returned (.slice (some ⟨w.heap.size, 0, none⟩) acc.length acc.length) ∧ out.Perm acc ∧ Blk w' w.heap.size 34 (strA out) ∧ IsSet Try.prog 34 w' b acc ∧ Below w.heap.size w w' ∧ (∀ s ∈ out, s.size ≤ maxLen) := by
  have hmk := make_strs (P := Try.prog) Try.underlying44 (e := 34) (by kernel_rfl) acc.length (by omega)
  have h1 := h.below (below_alloc (Below.refl _ _) (.cells (emptyA acc.length) 34))
  have hbk := Blk.new w 34 (emptyA acc.length)
  have hbe := below_alloc (Below.refl w.heap.size w) (.cells (emptyA acc.length) 34)
  have hblt := h.lt
  have e1 : (w.alloc (.cells (emptyA acc.length) 34)).heap.size = w.heap.size + 1 := by simp
  go_enter Try.func28, Try.ntmps28
  go_wp2_with (first | (at_len; refine wpList_len_set rfl _ 30 rfl 34 42 Try.underlying30 _ _ rfl (by assumption) ?_) | (at_range; refine wpList_range_set rfl _ 30 rfl 34 42 lawK Try.underlying30 _ _ rfl h1 ?_; intro w0 hr0 hg0 hs0))
  go_frame
  rw [e1] at hr0 hs0 ⊢
  go_loopw [4] (fun i wr => ∃ out : List ByteArray, i = .int .i64 (out.length : Int) ∧ RSet Try.prog 34 wr b (w.heap.size + 1) acc out ∧ Blk wr w.heap.size 34 (fillO out acc.length) ∧ Below w.heap.size w wr ∧ Hid (∀ s ∈ out, s.size ≤ maxLen)) (fun _ wr => wr.rangeLeft b (w.heap.size + 1))
  case atStart => exact ⟨[], rfl, hr0, by rw [fillO_zero]; exact hbk.grown hg0 (by simp), below_grown_none hbe hg0, fun s hs => by simp at hs⟩
  case round =>
    obtain ⟨out, rfl, hr, hk, hB, hsz⟩ := hrel
    clear hr0 hg0 hs0 hbk hbe h1 h hmk
    go_wp2_with (at_next; refine wpList_next_set rfl _ rfl 34 lawK Try.underlying34 _ _ _ _ rfl hr ?_ ?_)
    · intro hp
      have hlen := hp.length_eq
      rw [fillO_end hlen] at hk
      have hS := hr.isSet
      clear hr
      go_wp2
      go_ret
      exact ⟨out, rfl, hp, hk, hS, hB, hsz.out⟩
    · intro s w1 hs hin hno hr1 hg1 hs1 hlt hen
      have hle : (out ++ [s]).length ≤ acc.length := len_le_of_sub hr1.onodup hr1.sub
      have hlt1 : out.length < acc.length := by simp at hle; omega
      have hlt2 : (out.length : Int) < (acc.length : Int) := by omega
      have hk1 : Blk w1 w.heap.size 34 (fillO out acc.length) := hk.grown hg1 (by simp)
      have hc1 : w1.cell? ⟨w.heap.size, out.length, none⟩ = some (.string ByteArray.empty) := (hk1.cell _).trans (fillO_get hlt1)
      have hf1 := hk1.frozen out.length
      have Hno := Lib.hid hno
      have Hin := Lib.hid hin
      clear hno hin hk
      go_wp2
      have hgs := grown_of_wrote (Wrote.set w.heap.size out.length w1 (.string s))
      have hb1 : some b ≠ some w.heap.size := by simp; omega
      have hr2 : some (w.heap.size + 1) ≠ some w.heap.size := by simp
      refine ⟨⟨out ++ [s], by simp, hr1.kept hgs hb1 hr2, (fillO_step hlt1) ▸ hk1.set_ _ _, below_set (below_grown hB hg1 (by omega)) (Nat.le_refl _) _, fun t ht => ?_⟩, ?_⟩
      · rcases List.mem_append.1 ht with ht | ht
        · exact hsz.out t ht
        · simp at ht
          exact ht ▸ hs
      · rw [hr1.left_kept hgs hb1 hr2]
        exact hlt
end Go.Proofs.Ytfefapadffmdlaa
