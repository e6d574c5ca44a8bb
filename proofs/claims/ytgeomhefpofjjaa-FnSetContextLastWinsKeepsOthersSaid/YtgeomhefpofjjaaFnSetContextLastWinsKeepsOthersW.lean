/- The walk of FnSetContextLastWinsKeepsOthers. -/
import Derived.Test.YtgeomhefpofjjaaFnSetContextLastWinsKeepsOthersB
import Derived.Test.YtgeomhefpofjjaaC31Bytes
import Derived.Test.YtgeomhefpofjjaaC31Copy
import Derived.Test.YtgeomhefpofjjaaC31Same
import Derived.Test.YtgeomhefpofjjaaCNode
namespace Go.Proofs.Ytgeomhefpofjjaa.fnSetContextLastWinsKeepsOthers
open Go.ChangeShapes Go.WideShapes Go.ChangeAt Go.RowKit
set_option linter.unusedVariables false

set_option maxHeartbeats 800000 in
theorem walk (a0 : ByteArray) (a1 : ByteArray) (a2 : Bool) (a3 : Option Addr) (len3 cap3 : Nat) (s3 : List ByteArray) (w : World) (w0 : a0.size ≤ maxLen) (w1 : a1.size ≤ maxLen) (w3 : IsStrs w a3 len3 cap3 s3) :
    Calls Try.prog 3 #[.string a0, .string a1, .bool a2, .slice a3 len3 cap3] w fun e w' => e = .returned (.bool true) ∧ Below w.heap.size w w' := by
  have hm3 : len3 ≤ 9223372036854775807 := by have := w3.lecap; have := w3.capmax; unfold maxLen at this; omega
  have hm0 := w0
  have hm1 := w1
  unfold maxLen at hm0 hm1
  go_enter Try.func3, Try.ntmps3
  go_wp2_with fail
  refine (bytes_any _ _ _ _ _ _ _ _ w0 w1 w3).mono ?_
  rintro e w' ⟨r, rfl, hr, rfl⟩
  cases r
  · go_wp2_with fail
    go_ret
    exact ⟨rfl, Below.refl _ _⟩
  obtain ⟨hl0, hl1, hl3⟩ := hr rfl
  clear hr
  go_wp2_with fail
  all_goals try (go_ret; exact ⟨rfl, Below.refl _ _⟩)
  refine (zzBytes_any _ _ _ _ _ w3).mono ?_
  rintro e w' ⟨n, rfl, hn0, hn1, rfl⟩
  go_wp2_with fail
  · go_ret
    exact ⟨rfl, Below.refl _ _⟩
  refine (toIdents_any _ _ _ s3 _ (w3.keep (below_alloc (Below.refl _ _) _)) hl3).mono ?_
  rintro e w2 (⟨rfl, rfl, rfl, rfl⟩ | ⟨hne, rfl, hb2, hblk2, hs2⟩)
  · have hnil : s3 = [] := List.eq_nil_of_length_eq_zero w3.len
    subst hnil
    have hpp := fun W => neq_ptr_same (P := Try.prog) W (tp := 29) (n := 1) ⟨w.heap.size + 1, 0, none⟩ Try.underlying29 (by kernel_rfl)
    have hpq := fun W => neq_ptr_same (P := Try.prog) W (tp := 29) (n := 1) ⟨w.heap.size + 1 + 1, 0, none⟩ Try.underlying29 (by kernel_rfl)
    have heo := fun (N : Obj) => eql_two_new (P := Try.prog) (w.alloc N) (tp := 29) (te := 9) (n := 0) #[.string a0] 9 #[.string a1] 9 Try.underlying29 (by kernel_rfl)
    simp only [World.size_alloc] at heo
    cases a2
    all_goals
      go_wp2_with (first | (go_at_call 10; go_in) | (go_at_call 11; go_in) | (go_at_call 12; go_in) | (go_at_call 13; go_in))
      go_end0
      go_wp2_with (first | (go_at_call 10; go_in) | (go_at_call 11; go_in) | (go_at_call 12; go_in) | (go_at_call 13; go_in))
      go_end0
      go_wp2_with (first | (go_at_call 10; go_in) | (go_at_call 11; go_in) | (go_at_call 12; go_in) | (go_at_call 13; go_in))
      go_end0
      go_wp2_with (first | (go_at_call 10; go_in) | (go_at_call 11; go_in) | (go_at_call 12; go_in) | (go_at_call 13; go_in))
      refine (same_yes _ _ _ _ _ [] _ (strs_nil _) (w3.keep (by repeat (first | exact Below.refl _ _ | refine below_alloc ?_ _ | refine below_set ?_ (by simp) _))) rfl).mono ?_
      rintro e w4 ⟨rfl, m, rfl⟩
      go_wp2_with fail
      go_quiet (fail)
      go_wp2
      go_ret
      exact ⟨rfl, by repeat (first | exact Below.refl _ _ | assumption | refine below_drewN ?_ _ | refine Below.drew ?_ | refine below_alloc ?_ _ | refine below_set ?_ (by simp <;> omega) _ | refine below_trans ?_ (by assumption))⟩
  · have hz2 : w.heap.size + 1 < w2.heap.size := by have := hs2; simp at this; omega
    have hbel : Below w.heap.size w w2 := below_trans (below_alloc (Below.refl _ _) _) hb2
    have hblk3 : Blk w2 (w.heap.size + 1) 46 (strA s3) := by simpa using hblk2
    have hnn : a3.isNone = false := by cases a3 with | none => exact absurd rfl hne | some x => rfl
    have hbN := (Blk.new w 38 #[.slice none 0 0, .pointer none, .slice none 0 0, .pointer none, .string ⟨#[]⟩, .int .i64 0, .int .i64 0, .int .i64 0, .int .i64 0]).below hb2 (by simp)
    have hii := fun W => neq_ptr_same (P := Try.prog) W (tp := 45) (n := 1) ⟨w.heap.size + 1, 0, none⟩ Try.underlying45 (by kernel_rfl)
    clear hs2 hblk2 hne hb2
    go_wp2_with fail
    refine (setFV_any _ _ _ _ _ _ _ _ _ _ _ _ _ _ hbN).mono ?_
    rintro e w4 ⟨rfl, hbN4, hw4⟩
    have hz4 : w.heap.size + 1 < w4.heap.size := by rw [hw4.size]; exact hz2
    have hbel4 := below_wrote hbel hw4 (Nat.le_refl _)
    have hblk4 := hblk3.wrote hw4 (by omega)
    clear hbN hz2 hbel hblk3 hw4
    have hpp := fun W => neq_ptr_same (P := Try.prog) W (tp := 29) (n := 1) ⟨w4.heap.size, 0, none⟩ Try.underlying29 (by kernel_rfl)
    go_wp2_with fail
    refine (setCtx_any _ _ _ _ _ _ _ _ _ _ _ _ (hbN4.alloc _)).mono ?_
    rintro e w5 ⟨rfl, hbN5, hw5⟩
    have hz5 : w4.heap.size < w5.heap.size := by rw [hw5.size]; simp
    have hbel5 := below_wrote (below_alloc hbel4 _) hw5 (Nat.le_refl _)
    have hblk5 := (hblk4.alloc _).wrote hw5 (by omega)
    have hbP5 := (Blk.new w4 9 #[.string a0]).wrote hw5 (by omega)
    clear hbN4 hbel4 hblk4 hw5
    go_wp2_with fail
    refine (getCtx_any _ _ _ _ _ _ _ _ _ _ _ hbN5).mono ?_
    rintro e w' ⟨rfl, rfl⟩
    cases a2
    · go_wp2_with fail
      refine (setCtx_any _ _ _ _ _ _ _ _ _ _ _ _ hbN5).mono ?_
      rintro e w6 ⟨rfl, hbN6, hw6⟩
      have hz6 : w4.heap.size < w6.heap.size := by rw [hw6.size]; exact hz5
      have hbel6 := below_wrote hbel5 hw6 (Nat.le_refl _)
      have hblk6 := hblk5.wrote hw6 (by omega)
      have hbP6 := hbP5.wrote hw6 (by omega)
      clear hbN5 hbel5 hblk5 hw6 hbP5
      go_wp2_with fail
      refine (getCtx_any _ _ _ _ _ _ _ _ _ _ _ hbN6).mono ?_
      rintro e w' ⟨rfl, rfl⟩
      have hcP := hbP6.cell 0
      go_wp2_with fail
      refine (getFV_any _ _ _ _ _ _ _ _ _ _ _ _ _ hbN6).mono ?_
      rintro e w' ⟨rfl, rfl⟩
      go_wp2_with fail
      refine (same_yes _ _ _ _ _ s3 _ (strs_of_blk hblk6 w3.len (by unfold maxLen; omega) w3.sizes) (w3.keep hbel6) (by simp [hnn])).mono ?_
      rintro e w7 ⟨rfl, m, rfl⟩
      clear hblk6 hnn hbN6 hbP6
      by_cases h0 : len3 = 0
      · subst h0
        go_wp2_with fail
        go_quiet (fail)
        go_wp2
        go_ret
        exact ⟨rfl, below_drewN (below_drewN hbel6 _) _⟩
      · have h1 : (0 : Int) < (len3 : Int) := by omega
        have h2 : 0 < len3 := by omega
        go_wp2_with fail
        go_quiet (fail)
        go_wp2
        go_ret
        exact ⟨rfl, below_drewN (below_drewN hbel6 _) _⟩
    · have hpq := fun W => neq_ptr_same (P := Try.prog) W (tp := 29) (n := 1) ⟨w5.heap.size, 0, none⟩ Try.underlying29 (by kernel_rfl)
      go_wp2_with fail
      refine (setCtx_any _ _ _ _ _ _ _ _ _ _ _ _ (hbN5.alloc _)).mono ?_
      rintro e w6 ⟨rfl, hbN6, hw6⟩
      have hz6 : w5.heap.size < w6.heap.size := by rw [hw6.size]; simp
      have hbel6 := below_wrote (below_alloc hbel5 _) hw6 (Nat.le_refl _)
      have hblk6 := (hblk5.alloc _).wrote hw6 (by omega)
      have hbP6 := (hbP5.alloc _).wrote hw6 (by omega)
      have hbQ6 := (Blk.new w5 9 #[.string a1]).wrote hw6 (by omega)
      clear hbN5 hbel5 hblk5 hw6 hbP5
      go_wp2_with fail
      refine (getCtx_any _ _ _ _ _ _ _ _ _ _ _ hbN6).mono ?_
      rintro e w' ⟨rfl, rfl⟩
      have hcP := hbP6.cell 0
      have hcQ := hbQ6.cell 0
      have hqp := eql_ptr_other (P := Try.prog) w6 (tp := 29) (te := 9) (n := 0) (a := ⟨w5.heap.size, 0, none⟩) (b := ⟨w4.heap.size, 0, none⟩) Try.underlying29 (by kernel_rfl) (by simp <;> omega) hbQ6 hbP6
      go_wp2_with fail
      refine (getFV_any _ _ _ _ _ _ _ _ _ _ _ _ _ hbN6).mono ?_
      rintro e w' ⟨rfl, rfl⟩
      go_wp2_with fail
      refine (same_yes _ _ _ _ _ s3 _ (strs_of_blk hblk6 w3.len (by unfold maxLen; omega) w3.sizes) (w3.keep hbel6) (by simp [hnn])).mono ?_
      rintro e w7 ⟨rfl, m, rfl⟩
      clear hblk6 hnn hbN6 hbP6 hqp
      by_cases h0 : len3 = 0
      · subst h0
        go_wp2_with fail
        go_quiet (fail)
        go_wp2
        go_ret
        exact ⟨rfl, below_drewN (below_drewN hbel6 _) _⟩
      · have h1 : (0 : Int) < (len3 : Int) := by omega
        have h2 : 0 < len3 := by omega
        go_wp2_with fail
        go_quiet (fail)
        go_wp2
        go_ret
        exact ⟨rfl, below_drewN (below_drewN hbel6 _) _⟩
end Go.Proofs.Ytgeomhefpofjjaa.fnSetContextLastWinsKeepsOthers
