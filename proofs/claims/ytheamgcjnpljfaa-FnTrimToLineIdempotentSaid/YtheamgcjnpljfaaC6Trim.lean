/- trimToLine. -/
import Derived.Test.YtheamgcjnpljfaaCommon
import Derived.Test.YtheamgcjnpljfaaChecked
namespace Go.Proofs.Ytheamgcjnpljfaa
open Go.ChangeShapes Go.WideShapes Go.ChangeAt Go.RowKit
set_option linter.unusedVariables false

/-- The column at which the piece on line l begins. -/
def begCol (b0 b1 l : Int) : Int := if b0 = l then b1 else 1
set_option maxHeartbeats 400000 in
theorem trim0_last (f : Option Addr) (s : ByteArray) (b0 b1 l e1 : Int) (w : World) (h : b0 ≤ l) :
    Calls Try.prog 28 #[.agg #[.pointer f, .string s, .int .i64 b0, .int .i64 b1, .int .i64 l, .int .i64 e1], .int .i64 l] w fun e w' => e = .returned (.agg #[.pointer f, .string s, .int .i64 l, .int .i64 (begCol b0 b1 l), .int .i64 l, .int .i64 (e1)]) ∧ ∃ o1 o2, (w.alloc o1).alloc o2 = w' := by
  rcases Int.lt_or_eq_of_le h with hlt | heq
  · have e1' : begCol b0 b1 l = 1 := by unfold begCol; rw [if_neg (by omega)]
    have hq : (b0 == l) = false := beq_eq_false_iff_ne.2 (by omega)
    have hq' : (b0 != l) = true := by rw [bne_iff_ne]; omega
    rw [e1']
    clear e1'
    go_enter Try.func28, Try.ntmps28
    go_wp2
    refine bodyPost_ret (v := .agg #[.pointer f, .string s, .int .i64 l, .int .i64 1, .int .i64 l, .int .i64 (e1)]) (by simp [results, Try.results28, go_sem]) rfl ⟨rfl, _, _, rfl⟩
  · subst heq
    have e1' : begCol b0 b1 b0 = b1 := by unfold begCol; rw [if_pos rfl]
    rw [e1']
    clear e1'
    go_enter Try.func28, Try.ntmps28
    go_wp2
    refine bodyPost_ret (v := .agg #[.pointer f, .string s, .int .i64 b0, .int .i64 b1, .int .i64 b0, .int .i64 (e1)]) (by simp [results, Try.results28, go_sem]) rfl ⟨rfl, _, _, rfl⟩
set_option maxHeartbeats 400000 in
theorem trim0_in (g : Nat) (s : ByteArray) (b0 b1 l e0 e1 : Int) (la : Option Addr) (ln lc : Nat) (t : ByteArray) (w : World) (h : b0 ≤ l) (h' : l < e0) (hg : w.cell? ⟨g, 1, none⟩ = some (.slice la ln lc)) (hl0 : 1 ≤ l) (hl1 : l ≤ ln) (hln : ln ≤ 1048576) (hsz : t.size ≤ maxLen) (ht : ∀ b off, la = some ⟨b, off, none⟩ → w.cell? ⟨b, off + (l.toNat - 1), none⟩ = some (.string t)) (hla : ∃ b off, la = some ⟨b, off, none⟩) :
    Calls Try.prog 28 #[.agg #[.pointer (some ⟨g, 0, none⟩), .string s, .int .i64 b0, .int .i64 b1, .int .i64 e0, .int .i64 e1], .int .i64 l] w fun e w' => e = .returned (.agg #[.pointer (some ⟨g, 0, none⟩), .string s, .int .i64 l, .int .i64 (begCol b0 b1 l), .int .i64 l, .int .i64 (t.size)]) ∧ ∃ o1 o2, (w.alloc o1).alloc o2 = w' := by
  unfold maxLen at hsz
  obtain ⟨b, off, rfl⟩ := hla
  have hc := ht b off rfl
  clear ht
  have lg := lt_of_cell hg
  have lb := lt_of_cell hc
  simp only at lg lb
  have lg1 : g < w.heap.size + 1 := by omega
  have lb1 : b < w.heap.size + 1 := by omega
  have hne : (e0 == l) = false := beq_eq_false_iff_ne.2 (by omega)
  have hne' : (e0 != l) = true := by rw [bne_iff_ne]; omega
  obtain ⟨n, rfl⟩ : ∃ n : Nat, l = (n : Int) + 1 := ⟨(l - 1).toNat, by omega⟩
  have hi : ((n : Int) + 1).toNat - 1 = n := by omega
  rw [hi] at hc
  clear hi
  have hi0 : (0 : Int) ≤ (n : Int) := by omega
  have hi1 : (n : Int) < (ln : Int) := by omega
  have hi2 : n < ln := by omega
  rcases Int.lt_or_eq_of_le h with hlt | heq
  · have e1' : begCol b0 b1 ((n : Int) + 1) = 1 := by unfold begCol; rw [if_neg (by omega)]
    have hq : (b0 == ((n : Int) + 1)) = false := beq_eq_false_iff_ne.2 (by omega)
    have hq' : (b0 != ((n : Int) + 1)) = true := by rw [bne_iff_ne]; omega
    rw [e1']
    clear e1'
    go_enter Try.func28, Try.ntmps28
    go_wp2
    refine bodyPost_ret (v := .agg #[.pointer (some ⟨g, 0, none⟩), .string s, .int .i64 ((n : Int) + 1), .int .i64 1, .int .i64 ((n : Int) + 1), .int .i64 (t.size)]) (by simp [results, Try.results28, go_sem]) rfl ⟨rfl, _, _, rfl⟩
  · subst heq
    have e1' : begCol ((n : Int) + 1) b1 ((n : Int) + 1) = b1 := by unfold begCol; rw [if_pos rfl]
    rw [e1']
    clear e1'
    go_enter Try.func28, Try.ntmps28
    go_wp2
    refine bodyPost_ret (v := .agg #[.pointer (some ⟨g, 0, none⟩), .string s, .int .i64 ((n : Int) + 1), .int .i64 b1, .int .i64 ((n : Int) + 1), .int .i64 (t.size)]) (by simp [results, Try.results28, go_sem]) rfl ⟨rfl, _, _, rfl⟩
set_option maxHeartbeats 400000 in
theorem trim_last (f : Option Addr) (s : ByteArray) (b0 b1 l e1 : Int) (w : World) (h : b0 ≤ l) :
    Calls Try.prog 14 #[.agg #[.pointer f, .string s, .int .i64 b0, .int .i64 b1, .int .i64 l, .int .i64 e1], .int .i64 l] w fun e w' => e = .returned (.agg #[.pointer f, .string s, .int .i64 l, .int .i64 (begCol b0 b1 l), .int .i64 l, .int .i64 (e1)]) ∧ Below w.heap.size w w' := by
  go_enter Try.func14, Try.ntmps14
  go_wp2_with fail
  refine (trim0_last _ _ _ _ _ _ _ h).mono ?_
  rintro e w1 ⟨rfl, o1, o2, rfl⟩
  go_wp2
  refine bodyPost_ret (v := .agg #[.pointer f, .string s, .int .i64 l, .int .i64 (begCol b0 b1 l), .int .i64 l, .int .i64 (e1)]) (by simp [results, Try.results14, go_sem]) rfl ⟨rfl, ?_⟩
  repeat (first | (with_reducible exact Below.refl _ _) | (with_reducible assumption) | (with_reducible refine below_drewN ?_ _) | (with_reducible refine Below.drew ?_) | (with_reducible refine below_alloc ?_ _) | (with_reducible refine below_trans ?_ (by assumption)))
set_option maxHeartbeats 400000 in
theorem trim_in (g : Nat) (s : ByteArray) (b0 b1 l e0 e1 : Int) (la : Option Addr) (ln lc : Nat) (t : ByteArray) (w : World) (h : b0 ≤ l) (h' : l < e0) (hg : w.cell? ⟨g, 1, none⟩ = some (.slice la ln lc)) (hl0 : 1 ≤ l) (hl1 : l ≤ ln) (hln : ln ≤ 1048576) (hsz : t.size ≤ maxLen) (ht : ∀ b off, la = some ⟨b, off, none⟩ → w.cell? ⟨b, off + (l.toNat - 1), none⟩ = some (.string t)) (hla : ∃ b off, la = some ⟨b, off, none⟩) :
    Calls Try.prog 14 #[.agg #[.pointer (some ⟨g, 0, none⟩), .string s, .int .i64 b0, .int .i64 b1, .int .i64 e0, .int .i64 e1], .int .i64 l] w fun e w' => e = .returned (.agg #[.pointer (some ⟨g, 0, none⟩), .string s, .int .i64 l, .int .i64 (begCol b0 b1 l), .int .i64 l, .int .i64 (t.size)]) ∧ Below w.heap.size w w' := by
  go_enter Try.func14, Try.ntmps14
  go_wp2_with fail
  have lg := lt_of_cell hg
  simp only at lg
  refine (trim0_in _ _ _ _ _ _ _ la ln lc t _ h h' ?_ hl0 hl1 hln hsz ?_ hla).mono ?_
  · exact cell_later (below_alloc (below_alloc (Below.refl _ w) _) _) hg
  · intro b off he
    exact cell_later (below_alloc (below_alloc (Below.refl _ w) _) _) (ht b off he)
  rintro e w1 ⟨rfl, o1, o2, rfl⟩
  go_wp2
  refine bodyPost_ret (v := .agg #[.pointer (some ⟨g, 0, none⟩), .string s, .int .i64 l, .int .i64 (begCol b0 b1 l), .int .i64 l, .int .i64 (t.size)]) (by simp [results, Try.results14, go_sem]) rfl ⟨rfl, ?_⟩
  repeat (first | (with_reducible exact Below.refl _ _) | (with_reducible assumption) | (with_reducible refine below_drewN ?_ _) | (with_reducible refine Below.drew ?_) | (with_reducible refine below_alloc ?_ _) | (with_reducible refine below_trans ?_ (by assumption)))
end Go.Proofs.Ytheamgcjnpljfaa
