/- The walk of FnTrimToLineIdempotent. (Written by wip/gen6.py.) -/
import Derived.Test.YtheamgcjnpljfaaFnTrimToLineIdempotentB
import Derived.Test.YtheamgcjnpljfaaC6Copy
import Derived.Test.YtheamgcjnpljfaaC6MakeLoc
import Derived.Test.YtheamgcjnpljfaaC6TooBig
import Derived.Test.YtheamgcjnpljfaaC6Trim
import Derived.Deep.RegionHeld3
namespace Go.Proofs.Ytheamgcjnpljfaa.fnTrimToLineIdempotent
open Go.ChangeShapes Go.WideShapes Go.ChangeAt Go.RowKit
set_option linter.unusedVariables false

theorem at_line {w : World} {b off n : Nat} {t : ByteArray} (h : w.cell? ⟨b, off + n, none⟩ = some (.string t)) (b' off' : Nat) (he : some (⟨b, off, none⟩ : Addr) = some ⟨b', off', none⟩) : w.cell? ⟨b', off' + (((n : Int) + 1).toNat - 1), none⟩ = some (.string t) := by
  have h1 := Option.some.inj he
  injection h1 with h2 h3
  subst h2 h3
  rw [show ((n : Int) + 1).toNat - 1 = n by omega]
  exact h

set_option maxHeartbeats 4000000 in
theorem walk (a0 : Option Addr) (len0 cap0 : Nat) (s0 : List ByteArray) (a1 : ByteArray) (a2 a3 a4 a5 a6 : Int) (w : World) (w0 : IsStrs w a0 len0 cap0 s0) (w1 : a1.size ≤ maxLen) (w2 : (Lit.int .i64 a2).wf = true) (w3 : (Lit.int .i64 a3).wf = true) (w4 : (Lit.int .i64 a4).wf = true) (w5 : (Lit.int .i64 a5).wf = true) (w6 : (Lit.int .i64 a6).wf = true) :
    Calls Try.prog 8 #[.slice a0 len0 cap0, .string a1, .int .i64 a2, .int .i64 a3, .int .i64 a4, .int .i64 a5, .int .i64 a6] w fun e w' => e = .returned (.bool true) ∧ Below w.heap.size w w' := by
  go_enter Try.func8, Try.ntmps8
  go_wp2_with fail
  refine (bytes_any _ _ _ _ _ _ _ _ _ _ _ w0 w1).mono ?_
  rintro e w' ⟨r, rfl, hr, rfl⟩
  cases r
  · go_wp2_with fail
    go_ret
    exact ⟨rfl, Below.refl _ _⟩
  obtain ⟨hl, hsh, hfn⟩ := hr rfl
  clear hr
  go_wp2_with fail
  all_goals try (go_ret; exact ⟨rfl, Below.refl _ _⟩)
  refine (tooBig_any _ _ _ _ _ _ w0 w1).mono ?_
  rintro e w' ⟨r, rfl, _, rfl⟩
  cases r
  rotate_left
  · go_wp2_with fail
    go_ret
    exact ⟨rfl, Below.refl _ _⟩
  go_wp2_with fail
  all_goals try (go_ret; exact ⟨rfl, Below.refl _ _⟩)
  refine (clone_any _ _ _ s0 _ w0 hl).mono ?_
  intro e u2 hcp
  obtain ⟨x, c, rfl, _, hB, hst, _⟩ := hcp.u w0 hl
  clear hcp
  have hU : Below u2.heap.size u2 u2 := Below.refl _ _
  have hpe := fun W => equalIn_ptr_same (P := Try.prog) W 9998 (tp := 26) (n := 2) ⟨u2.heap.size, 0, none⟩ Try.underlying26 (by kernel_rfl)
  have hpp := fun W => neq_ptr_same (P := Try.prog) W (tp := 26) (n := 2) ⟨u2.heap.size, 0, none⟩ Try.underlying26 (by kernel_rfl)
  obtain ⟨n1, rfl⟩ : ∃ n : Nat, a6 = (n : Int) + 1 := ⟨(a6 - 1).toNat, by omega⟩
  have hn1 : n1 < len0 := by omega
  have hn1' : (n1 : Int) < (len0 : Int) := by omega
  have hn10 : (0 : Int) ≤ (n1 : Int) := by omega
  obtain ⟨b, off, t1, rfl, hblt, hs, hsz1, hcell1⟩ := hst.at_ hn1
  clear hs
  by_cases hlt : a2 < (n1 : Int) + 1
  · have hbc : begCol a2 a3 ((n1 : Int) + 1) = 1 := by unfold begCol; rw [if_neg (by omega)]
    by_cases hle : a4 = (n1 : Int) + 1
    · subst hle
      have HX_src := Blk.new u2 29 #[.string ByteArray.empty, .slice (some ⟨b, off, none⟩) len0 c]
      have hBX : Below w.heap.size w ((u2).alloc (.cells #[.string ByteArray.empty, .slice (some ⟨b, off, none⟩) len0 c] 29)) := below_alloc hB _
      have hUX : Below u2.heap.size u2 ((u2).alloc (.cells #[.string ByteArray.empty, .slice (some ⟨b, off, none⟩) len0 c] 29)) := below_alloc hU _
      go_wp2_with fail
      refine (makeLoc_any _ _ _ _ _ _ _).mono ?_
      rintro e v1 ⟨rfl, hb⟩
      have H_src' := HX_src.below hb HX_src.lt
      clear HX_src
      have H_src := H_src'
      clear H_src'
      have l_src := H_src.lt
      have c_src_0 : v1.cell? ⟨u2.heap.size, 0, none⟩ = some (.string ByteArray.empty) := H_src.cell 0
      have c_src_1 : v1.cell? ⟨u2.heap.size, 1, none⟩ = some (.slice (some ⟨b, off, none⟩) len0 c) := H_src.cell 1
      have hB' := below_trans hBX hb
      have hU' := below_trans hUX hb
      clear hB hU hBX hUX hb
      have hB := hB'
      have hU := hU'
      clear hB' hU'
      have hlb : b < v1.heap.size := lt_of_cell (cell_later hU hcell1)
      have hs1 : v1.cell? ⟨b, off + n1, none⟩ = some (.string t1) := cell_later hU hcell1
      have HX_src := H_src.alloc (.cells #[.pointer (some ⟨u2.heap.size, 0, none⟩), .string a1, .int .i64 a2, .int .i64 a3, .int .i64 ((n1 : Int) + 1), .int .i64 a5] 33)
      have HX_loc := Blk.new v1 33 #[.pointer (some ⟨u2.heap.size, 0, none⟩), .string a1, .int .i64 a2, .int .i64 a3, .int .i64 ((n1 : Int) + 1), .int .i64 a5]
      have hBX : Below w.heap.size w ((v1).alloc (.cells #[.pointer (some ⟨u2.heap.size, 0, none⟩), .string a1, .int .i64 a2, .int .i64 a3, .int .i64 ((n1 : Int) + 1), .int .i64 a5] 33)) := below_alloc hB _
      have hUX : Below u2.heap.size u2 ((v1).alloc (.cells #[.pointer (some ⟨u2.heap.size, 0, none⟩), .string a1, .int .i64 a2, .int .i64 a3, .int .i64 ((n1 : Int) + 1), .int .i64 a5] 33)) := below_alloc hU _
      go_wp2_with fail
      refine (trim_last _ _ _ _ _ _ _ (by omega)).mono ?_
      rintro e v2 ⟨he, hb⟩
      rw [hbc] at he
      subst he
      clear hs1
      have H_src' := HX_src.below hb HX_src.lt
      have H_loc' := HX_loc.below hb HX_loc.lt
      clear HX_src HX_loc
      clear H_src l_src c_src_0 c_src_1
      have H_src := H_src'
      clear H_src'
      have l_src := H_src.lt
      have c_src_0 : v2.cell? ⟨u2.heap.size, 0, none⟩ = some (.string ByteArray.empty) := H_src.cell 0
      have c_src_1 : v2.cell? ⟨u2.heap.size, 1, none⟩ = some (.slice (some ⟨b, off, none⟩) len0 c) := H_src.cell 1
      have H_loc := H_loc'
      clear H_loc'
      have l_loc := H_loc.lt
      have c_loc_0 : v2.cell? ⟨v1.heap.size, 0, none⟩ = some (.pointer (some ⟨u2.heap.size, 0, none⟩)) := H_loc.cell 0
      have c_loc_1 : v2.cell? ⟨v1.heap.size, 1, none⟩ = some (.string a1) := H_loc.cell 1
      have c_loc_2 : v2.cell? ⟨v1.heap.size, 2, none⟩ = some (.int .i64 a2) := H_loc.cell 2
      have c_loc_3 : v2.cell? ⟨v1.heap.size, 3, none⟩ = some (.int .i64 a3) := H_loc.cell 3
      have c_loc_4 : v2.cell? ⟨v1.heap.size, 4, none⟩ = some (.int .i64 ((n1 : Int) + 1)) := H_loc.cell 4
      have c_loc_5 : v2.cell? ⟨v1.heap.size, 5, none⟩ = some (.int .i64 a5) := H_loc.cell 5
      have hB' := below_trans hBX hb
      have hU' := below_trans hUX hb
      clear hB hU hBX hUX hb
      have hB := hB'
      have hU := hU'
      clear hB' hU'
      clear hlb
      have hlb : b < v2.heap.size := lt_of_cell (cell_later hU hcell1)
      have hs1 : v2.cell? ⟨b, off + n1, none⟩ = some (.string t1) := cell_later hU hcell1
      have HX_src := H_src.alloc (.cells #[.pointer (some ⟨u2.heap.size, 0, none⟩), .string a1, .int .i64 ((n1 : Int) + 1), .int .i64 1, .int .i64 ((n1 : Int) + 1), .int .i64 a5] 33)
      have HX_loc := H_loc.alloc (.cells #[.pointer (some ⟨u2.heap.size, 0, none⟩), .string a1, .int .i64 ((n1 : Int) + 1), .int .i64 1, .int .i64 ((n1 : Int) + 1), .int .i64 a5] 33)
      have HX_once := Blk.new v2 33 #[.pointer (some ⟨u2.heap.size, 0, none⟩), .string a1, .int .i64 ((n1 : Int) + 1), .int .i64 1, .int .i64 ((n1 : Int) + 1), .int .i64 a5]
      have hBX : Below w.heap.size w ((v2).alloc (.cells #[.pointer (some ⟨u2.heap.size, 0, none⟩), .string a1, .int .i64 ((n1 : Int) + 1), .int .i64 1, .int .i64 ((n1 : Int) + 1), .int .i64 a5] 33)) := below_alloc hB _
      have hUX : Below u2.heap.size u2 ((v2).alloc (.cells #[.pointer (some ⟨u2.heap.size, 0, none⟩), .string a1, .int .i64 ((n1 : Int) + 1), .int .i64 1, .int .i64 ((n1 : Int) + 1), .int .i64 a5] 33)) := below_alloc hU _
      go_wp2_with fail
      refine (trim_last _ _ _ _ _ _ _ (Int.le_refl _)).mono ?_
      rintro e v3 ⟨he, hb⟩
      rw [show begCol ((n1 : Int) + 1) 1 ((n1 : Int) + 1) = 1 by unfold begCol; rw [if_pos rfl]] at he
      subst he
      clear hs1
      have H_src' := HX_src.below hb HX_src.lt
      have H_loc' := HX_loc.below hb HX_loc.lt
      have H_once' := HX_once.below hb HX_once.lt
      clear HX_src HX_loc HX_once
      clear H_src l_src c_src_0 c_src_1 H_loc l_loc c_loc_0 c_loc_1 c_loc_2 c_loc_3 c_loc_4 c_loc_5
      have H_src := H_src'
      clear H_src'
      have l_src := H_src.lt
      have c_src_0 : v3.cell? ⟨u2.heap.size, 0, none⟩ = some (.string ByteArray.empty) := H_src.cell 0
      have c_src_1 : v3.cell? ⟨u2.heap.size, 1, none⟩ = some (.slice (some ⟨b, off, none⟩) len0 c) := H_src.cell 1
      have H_loc := H_loc'
      clear H_loc'
      have l_loc := H_loc.lt
      have c_loc_0 : v3.cell? ⟨v1.heap.size, 0, none⟩ = some (.pointer (some ⟨u2.heap.size, 0, none⟩)) := H_loc.cell 0
      have c_loc_1 : v3.cell? ⟨v1.heap.size, 1, none⟩ = some (.string a1) := H_loc.cell 1
      have c_loc_2 : v3.cell? ⟨v1.heap.size, 2, none⟩ = some (.int .i64 a2) := H_loc.cell 2
      have c_loc_3 : v3.cell? ⟨v1.heap.size, 3, none⟩ = some (.int .i64 a3) := H_loc.cell 3
      have c_loc_4 : v3.cell? ⟨v1.heap.size, 4, none⟩ = some (.int .i64 ((n1 : Int) + 1)) := H_loc.cell 4
      have c_loc_5 : v3.cell? ⟨v1.heap.size, 5, none⟩ = some (.int .i64 a5) := H_loc.cell 5
      have H_once := H_once'
      clear H_once'
      have l_once := H_once.lt
      have c_once_0 : v3.cell? ⟨v2.heap.size, 0, none⟩ = some (.pointer (some ⟨u2.heap.size, 0, none⟩)) := H_once.cell 0
      have c_once_1 : v3.cell? ⟨v2.heap.size, 1, none⟩ = some (.string a1) := H_once.cell 1
      have c_once_2 : v3.cell? ⟨v2.heap.size, 2, none⟩ = some (.int .i64 ((n1 : Int) + 1)) := H_once.cell 2
      have c_once_3 : v3.cell? ⟨v2.heap.size, 3, none⟩ = some (.int .i64 1) := H_once.cell 3
      have c_once_4 : v3.cell? ⟨v2.heap.size, 4, none⟩ = some (.int .i64 ((n1 : Int) + 1)) := H_once.cell 4
      have c_once_5 : v3.cell? ⟨v2.heap.size, 5, none⟩ = some (.int .i64 a5) := H_once.cell 5
      have hB' := below_trans hBX hb
      have hU' := below_trans hUX hb
      clear hB hU hBX hUX hb
      have hB := hB'
      have hU := hU'
      clear hB' hU'
      clear hlb
      have hlb : b < v3.heap.size := lt_of_cell (cell_later hU hcell1)
      have hs1 : v3.cell? ⟨b, off + n1, none⟩ = some (.string t1) := cell_later hU hcell1
      go_wp2_with fail
      go_ret
      exact ⟨rfl, by first | exact hB | exact below_alloc hB _ | exact below_alloc (below_alloc hB _) _ | exact below_drewN hB _ | exact below_alloc (below_drewN hB _) _⟩
    · have hlt4 : (n1 : Int) + 1 < a4 := by omega
      have HX_src := Blk.new u2 29 #[.string ByteArray.empty, .slice (some ⟨b, off, none⟩) len0 c]
      have hBX : Below w.heap.size w ((u2).alloc (.cells #[.string ByteArray.empty, .slice (some ⟨b, off, none⟩) len0 c] 29)) := below_alloc hB _
      have hUX : Below u2.heap.size u2 ((u2).alloc (.cells #[.string ByteArray.empty, .slice (some ⟨b, off, none⟩) len0 c] 29)) := below_alloc hU _
      go_wp2_with fail
      refine (makeLoc_any _ _ _ _ _ _ _).mono ?_
      rintro e v1 ⟨rfl, hb⟩
      have H_src' := HX_src.below hb HX_src.lt
      clear HX_src
      have H_src := H_src'
      clear H_src'
      have l_src := H_src.lt
      have c_src_0 : v1.cell? ⟨u2.heap.size, 0, none⟩ = some (.string ByteArray.empty) := H_src.cell 0
      have c_src_1 : v1.cell? ⟨u2.heap.size, 1, none⟩ = some (.slice (some ⟨b, off, none⟩) len0 c) := H_src.cell 1
      have hB' := below_trans hBX hb
      have hU' := below_trans hUX hb
      clear hB hU hBX hUX hb
      have hB := hB'
      have hU := hU'
      clear hB' hU'
      have hlb : b < v1.heap.size := lt_of_cell (cell_later hU hcell1)
      have hs1 : v1.cell? ⟨b, off + n1, none⟩ = some (.string t1) := cell_later hU hcell1
      have HX_src := H_src.alloc (.cells #[.pointer (some ⟨u2.heap.size, 0, none⟩), .string a1, .int .i64 a2, .int .i64 a3, .int .i64 a4, .int .i64 a5] 33)
      have HX_loc := Blk.new v1 33 #[.pointer (some ⟨u2.heap.size, 0, none⟩), .string a1, .int .i64 a2, .int .i64 a3, .int .i64 a4, .int .i64 a5]
      have hBX : Below w.heap.size w ((v1).alloc (.cells #[.pointer (some ⟨u2.heap.size, 0, none⟩), .string a1, .int .i64 a2, .int .i64 a3, .int .i64 a4, .int .i64 a5] 33)) := below_alloc hB _
      have hUX : Below u2.heap.size u2 ((v1).alloc (.cells #[.pointer (some ⟨u2.heap.size, 0, none⟩), .string a1, .int .i64 a2, .int .i64 a3, .int .i64 a4, .int .i64 a5] 33)) := below_alloc hU _
      go_wp2_with fail
      refine (trim_in _ _ _ _ _ _ _ (some ⟨b, off, none⟩) len0 c t1 _ (by omega) hlt4 (HX_src.cell 1) (by omega) (by omega) hl hsz1 (at_line (cell_later hUX hcell1)) ⟨b, off, rfl⟩).mono ?_
      rintro e v2 ⟨he, hb⟩
      rw [hbc] at he
      subst he
      clear hs1
      have H_src' := HX_src.below hb HX_src.lt
      have H_loc' := HX_loc.below hb HX_loc.lt
      clear HX_src HX_loc
      clear H_src l_src c_src_0 c_src_1
      have H_src := H_src'
      clear H_src'
      have l_src := H_src.lt
      have c_src_0 : v2.cell? ⟨u2.heap.size, 0, none⟩ = some (.string ByteArray.empty) := H_src.cell 0
      have c_src_1 : v2.cell? ⟨u2.heap.size, 1, none⟩ = some (.slice (some ⟨b, off, none⟩) len0 c) := H_src.cell 1
      have H_loc := H_loc'
      clear H_loc'
      have l_loc := H_loc.lt
      have c_loc_0 : v2.cell? ⟨v1.heap.size, 0, none⟩ = some (.pointer (some ⟨u2.heap.size, 0, none⟩)) := H_loc.cell 0
      have c_loc_1 : v2.cell? ⟨v1.heap.size, 1, none⟩ = some (.string a1) := H_loc.cell 1
      have c_loc_2 : v2.cell? ⟨v1.heap.size, 2, none⟩ = some (.int .i64 a2) := H_loc.cell 2
      have c_loc_3 : v2.cell? ⟨v1.heap.size, 3, none⟩ = some (.int .i64 a3) := H_loc.cell 3
      have c_loc_4 : v2.cell? ⟨v1.heap.size, 4, none⟩ = some (.int .i64 a4) := H_loc.cell 4
      have c_loc_5 : v2.cell? ⟨v1.heap.size, 5, none⟩ = some (.int .i64 a5) := H_loc.cell 5
      have hB' := below_trans hBX hb
      have hU' := below_trans hUX hb
      clear hB hU hBX hUX hb
      have hB := hB'
      have hU := hU'
      clear hB' hU'
      clear hlb
      have hlb : b < v2.heap.size := lt_of_cell (cell_later hU hcell1)
      have hs1 : v2.cell? ⟨b, off + n1, none⟩ = some (.string t1) := cell_later hU hcell1
      have HX_src := H_src.alloc (.cells #[.pointer (some ⟨u2.heap.size, 0, none⟩), .string a1, .int .i64 ((n1 : Int) + 1), .int .i64 1, .int .i64 ((n1 : Int) + 1), .int .i64 (t1.size : Int)] 33)
      have HX_loc := H_loc.alloc (.cells #[.pointer (some ⟨u2.heap.size, 0, none⟩), .string a1, .int .i64 ((n1 : Int) + 1), .int .i64 1, .int .i64 ((n1 : Int) + 1), .int .i64 (t1.size : Int)] 33)
      have HX_once := Blk.new v2 33 #[.pointer (some ⟨u2.heap.size, 0, none⟩), .string a1, .int .i64 ((n1 : Int) + 1), .int .i64 1, .int .i64 ((n1 : Int) + 1), .int .i64 (t1.size : Int)]
      have hBX : Below w.heap.size w ((v2).alloc (.cells #[.pointer (some ⟨u2.heap.size, 0, none⟩), .string a1, .int .i64 ((n1 : Int) + 1), .int .i64 1, .int .i64 ((n1 : Int) + 1), .int .i64 (t1.size : Int)] 33)) := below_alloc hB _
      have hUX : Below u2.heap.size u2 ((v2).alloc (.cells #[.pointer (some ⟨u2.heap.size, 0, none⟩), .string a1, .int .i64 ((n1 : Int) + 1), .int .i64 1, .int .i64 ((n1 : Int) + 1), .int .i64 (t1.size : Int)] 33)) := below_alloc hU _
      go_wp2_with fail
      refine (trim_last _ _ _ _ _ _ _ (Int.le_refl _)).mono ?_
      rintro e v3 ⟨he, hb⟩
      rw [show begCol ((n1 : Int) + 1) 1 ((n1 : Int) + 1) = 1 by unfold begCol; rw [if_pos rfl]] at he
      subst he
      clear hs1
      have H_src' := HX_src.below hb HX_src.lt
      have H_loc' := HX_loc.below hb HX_loc.lt
      have H_once' := HX_once.below hb HX_once.lt
      clear HX_src HX_loc HX_once
      clear H_src l_src c_src_0 c_src_1 H_loc l_loc c_loc_0 c_loc_1 c_loc_2 c_loc_3 c_loc_4 c_loc_5
      have H_src := H_src'
      clear H_src'
      have l_src := H_src.lt
      have c_src_0 : v3.cell? ⟨u2.heap.size, 0, none⟩ = some (.string ByteArray.empty) := H_src.cell 0
      have c_src_1 : v3.cell? ⟨u2.heap.size, 1, none⟩ = some (.slice (some ⟨b, off, none⟩) len0 c) := H_src.cell 1
      have H_loc := H_loc'
      clear H_loc'
      have l_loc := H_loc.lt
      have c_loc_0 : v3.cell? ⟨v1.heap.size, 0, none⟩ = some (.pointer (some ⟨u2.heap.size, 0, none⟩)) := H_loc.cell 0
      have c_loc_1 : v3.cell? ⟨v1.heap.size, 1, none⟩ = some (.string a1) := H_loc.cell 1
      have c_loc_2 : v3.cell? ⟨v1.heap.size, 2, none⟩ = some (.int .i64 a2) := H_loc.cell 2
      have c_loc_3 : v3.cell? ⟨v1.heap.size, 3, none⟩ = some (.int .i64 a3) := H_loc.cell 3
      have c_loc_4 : v3.cell? ⟨v1.heap.size, 4, none⟩ = some (.int .i64 a4) := H_loc.cell 4
      have c_loc_5 : v3.cell? ⟨v1.heap.size, 5, none⟩ = some (.int .i64 a5) := H_loc.cell 5
      have H_once := H_once'
      clear H_once'
      have l_once := H_once.lt
      have c_once_0 : v3.cell? ⟨v2.heap.size, 0, none⟩ = some (.pointer (some ⟨u2.heap.size, 0, none⟩)) := H_once.cell 0
      have c_once_1 : v3.cell? ⟨v2.heap.size, 1, none⟩ = some (.string a1) := H_once.cell 1
      have c_once_2 : v3.cell? ⟨v2.heap.size, 2, none⟩ = some (.int .i64 ((n1 : Int) + 1)) := H_once.cell 2
      have c_once_3 : v3.cell? ⟨v2.heap.size, 3, none⟩ = some (.int .i64 1) := H_once.cell 3
      have c_once_4 : v3.cell? ⟨v2.heap.size, 4, none⟩ = some (.int .i64 ((n1 : Int) + 1)) := H_once.cell 4
      have c_once_5 : v3.cell? ⟨v2.heap.size, 5, none⟩ = some (.int .i64 (t1.size : Int)) := H_once.cell 5
      have hB' := below_trans hBX hb
      have hU' := below_trans hUX hb
      clear hB hU hBX hUX hb
      have hB := hB'
      have hU := hU'
      clear hB' hU'
      clear hlb
      have hlb : b < v3.heap.size := lt_of_cell (cell_later hU hcell1)
      have hs1 : v3.cell? ⟨b, off + n1, none⟩ = some (.string t1) := cell_later hU hcell1
      have hw1 : IntKind.i64.wrap ((n1 : Int) + 1 - 1) = (n1 : Int) := by rw [show (n1 : Int) + 1 - 1 = (n1 : Int) by omega]; exact IntWalk.i64_in _ ⟨by omega, by omega⟩
      have hid : ((n1 : Int) + 1 - 1) = (n1 : Int) := by omega
      go_wp2_with fail
      go_quiet (fail)
      go_wp2_with fail
      go_ret
      exact ⟨rfl, by first | exact hB | exact below_alloc hB _ | exact below_alloc (below_alloc hB _) _ | exact below_drewN hB _ | exact below_alloc (below_drewN hB _) _⟩
  · obtain rfl : a2 = (n1 : Int) + 1 := by omega
    have hbc : begCol ((n1 : Int) + 1) a3 ((n1 : Int) + 1) = a3 := by unfold begCol; rw [if_pos rfl]
    by_cases hle : a4 = (n1 : Int) + 1
    · subst hle
      have HX_src := Blk.new u2 29 #[.string ByteArray.empty, .slice (some ⟨b, off, none⟩) len0 c]
      have hBX : Below w.heap.size w ((u2).alloc (.cells #[.string ByteArray.empty, .slice (some ⟨b, off, none⟩) len0 c] 29)) := below_alloc hB _
      have hUX : Below u2.heap.size u2 ((u2).alloc (.cells #[.string ByteArray.empty, .slice (some ⟨b, off, none⟩) len0 c] 29)) := below_alloc hU _
      go_wp2_with fail
      refine (makeLoc_any _ _ _ _ _ _ _).mono ?_
      rintro e v1 ⟨rfl, hb⟩
      have H_src' := HX_src.below hb HX_src.lt
      clear HX_src
      have H_src := H_src'
      clear H_src'
      have l_src := H_src.lt
      have c_src_0 : v1.cell? ⟨u2.heap.size, 0, none⟩ = some (.string ByteArray.empty) := H_src.cell 0
      have c_src_1 : v1.cell? ⟨u2.heap.size, 1, none⟩ = some (.slice (some ⟨b, off, none⟩) len0 c) := H_src.cell 1
      have hB' := below_trans hBX hb
      have hU' := below_trans hUX hb
      clear hB hU hBX hUX hb
      have hB := hB'
      have hU := hU'
      clear hB' hU'
      have hlb : b < v1.heap.size := lt_of_cell (cell_later hU hcell1)
      have hs1 : v1.cell? ⟨b, off + n1, none⟩ = some (.string t1) := cell_later hU hcell1
      have HX_src := H_src.alloc (.cells #[.pointer (some ⟨u2.heap.size, 0, none⟩), .string a1, .int .i64 ((n1 : Int) + 1), .int .i64 a3, .int .i64 ((n1 : Int) + 1), .int .i64 a5] 33)
      have HX_loc := Blk.new v1 33 #[.pointer (some ⟨u2.heap.size, 0, none⟩), .string a1, .int .i64 ((n1 : Int) + 1), .int .i64 a3, .int .i64 ((n1 : Int) + 1), .int .i64 a5]
      have hBX : Below w.heap.size w ((v1).alloc (.cells #[.pointer (some ⟨u2.heap.size, 0, none⟩), .string a1, .int .i64 ((n1 : Int) + 1), .int .i64 a3, .int .i64 ((n1 : Int) + 1), .int .i64 a5] 33)) := below_alloc hB _
      have hUX : Below u2.heap.size u2 ((v1).alloc (.cells #[.pointer (some ⟨u2.heap.size, 0, none⟩), .string a1, .int .i64 ((n1 : Int) + 1), .int .i64 a3, .int .i64 ((n1 : Int) + 1), .int .i64 a5] 33)) := below_alloc hU _
      go_wp2_with fail
      refine (trim_last _ _ _ _ _ _ _ (by omega)).mono ?_
      rintro e v2 ⟨he, hb⟩
      rw [hbc] at he
      subst he
      clear hs1
      have H_src' := HX_src.below hb HX_src.lt
      have H_loc' := HX_loc.below hb HX_loc.lt
      clear HX_src HX_loc
      clear H_src l_src c_src_0 c_src_1
      have H_src := H_src'
      clear H_src'
      have l_src := H_src.lt
      have c_src_0 : v2.cell? ⟨u2.heap.size, 0, none⟩ = some (.string ByteArray.empty) := H_src.cell 0
      have c_src_1 : v2.cell? ⟨u2.heap.size, 1, none⟩ = some (.slice (some ⟨b, off, none⟩) len0 c) := H_src.cell 1
      have H_loc := H_loc'
      clear H_loc'
      have l_loc := H_loc.lt
      have c_loc_0 : v2.cell? ⟨v1.heap.size, 0, none⟩ = some (.pointer (some ⟨u2.heap.size, 0, none⟩)) := H_loc.cell 0
      have c_loc_1 : v2.cell? ⟨v1.heap.size, 1, none⟩ = some (.string a1) := H_loc.cell 1
      have c_loc_2 : v2.cell? ⟨v1.heap.size, 2, none⟩ = some (.int .i64 ((n1 : Int) + 1)) := H_loc.cell 2
      have c_loc_3 : v2.cell? ⟨v1.heap.size, 3, none⟩ = some (.int .i64 a3) := H_loc.cell 3
      have c_loc_4 : v2.cell? ⟨v1.heap.size, 4, none⟩ = some (.int .i64 ((n1 : Int) + 1)) := H_loc.cell 4
      have c_loc_5 : v2.cell? ⟨v1.heap.size, 5, none⟩ = some (.int .i64 a5) := H_loc.cell 5
      have hB' := below_trans hBX hb
      have hU' := below_trans hUX hb
      clear hB hU hBX hUX hb
      have hB := hB'
      have hU := hU'
      clear hB' hU'
      clear hlb
      have hlb : b < v2.heap.size := lt_of_cell (cell_later hU hcell1)
      have hs1 : v2.cell? ⟨b, off + n1, none⟩ = some (.string t1) := cell_later hU hcell1
      have HX_src := H_src.alloc (.cells #[.pointer (some ⟨u2.heap.size, 0, none⟩), .string a1, .int .i64 ((n1 : Int) + 1), .int .i64 a3, .int .i64 ((n1 : Int) + 1), .int .i64 a5] 33)
      have HX_loc := H_loc.alloc (.cells #[.pointer (some ⟨u2.heap.size, 0, none⟩), .string a1, .int .i64 ((n1 : Int) + 1), .int .i64 a3, .int .i64 ((n1 : Int) + 1), .int .i64 a5] 33)
      have HX_once := Blk.new v2 33 #[.pointer (some ⟨u2.heap.size, 0, none⟩), .string a1, .int .i64 ((n1 : Int) + 1), .int .i64 a3, .int .i64 ((n1 : Int) + 1), .int .i64 a5]
      have hBX : Below w.heap.size w ((v2).alloc (.cells #[.pointer (some ⟨u2.heap.size, 0, none⟩), .string a1, .int .i64 ((n1 : Int) + 1), .int .i64 a3, .int .i64 ((n1 : Int) + 1), .int .i64 a5] 33)) := below_alloc hB _
      have hUX : Below u2.heap.size u2 ((v2).alloc (.cells #[.pointer (some ⟨u2.heap.size, 0, none⟩), .string a1, .int .i64 ((n1 : Int) + 1), .int .i64 a3, .int .i64 ((n1 : Int) + 1), .int .i64 a5] 33)) := below_alloc hU _
      go_wp2_with fail
      refine (trim_last _ _ _ _ _ _ _ (Int.le_refl _)).mono ?_
      rintro e v3 ⟨he, hb⟩
      rw [show begCol ((n1 : Int) + 1) a3 ((n1 : Int) + 1) = a3 by unfold begCol; rw [if_pos rfl]] at he
      subst he
      clear hs1
      have H_src' := HX_src.below hb HX_src.lt
      have H_loc' := HX_loc.below hb HX_loc.lt
      have H_once' := HX_once.below hb HX_once.lt
      clear HX_src HX_loc HX_once
      clear H_src l_src c_src_0 c_src_1 H_loc l_loc c_loc_0 c_loc_1 c_loc_2 c_loc_3 c_loc_4 c_loc_5
      have H_src := H_src'
      clear H_src'
      have l_src := H_src.lt
      have c_src_0 : v3.cell? ⟨u2.heap.size, 0, none⟩ = some (.string ByteArray.empty) := H_src.cell 0
      have c_src_1 : v3.cell? ⟨u2.heap.size, 1, none⟩ = some (.slice (some ⟨b, off, none⟩) len0 c) := H_src.cell 1
      have H_loc := H_loc'
      clear H_loc'
      have l_loc := H_loc.lt
      have c_loc_0 : v3.cell? ⟨v1.heap.size, 0, none⟩ = some (.pointer (some ⟨u2.heap.size, 0, none⟩)) := H_loc.cell 0
      have c_loc_1 : v3.cell? ⟨v1.heap.size, 1, none⟩ = some (.string a1) := H_loc.cell 1
      have c_loc_2 : v3.cell? ⟨v1.heap.size, 2, none⟩ = some (.int .i64 ((n1 : Int) + 1)) := H_loc.cell 2
      have c_loc_3 : v3.cell? ⟨v1.heap.size, 3, none⟩ = some (.int .i64 a3) := H_loc.cell 3
      have c_loc_4 : v3.cell? ⟨v1.heap.size, 4, none⟩ = some (.int .i64 ((n1 : Int) + 1)) := H_loc.cell 4
      have c_loc_5 : v3.cell? ⟨v1.heap.size, 5, none⟩ = some (.int .i64 a5) := H_loc.cell 5
      have H_once := H_once'
      clear H_once'
      have l_once := H_once.lt
      have c_once_0 : v3.cell? ⟨v2.heap.size, 0, none⟩ = some (.pointer (some ⟨u2.heap.size, 0, none⟩)) := H_once.cell 0
      have c_once_1 : v3.cell? ⟨v2.heap.size, 1, none⟩ = some (.string a1) := H_once.cell 1
      have c_once_2 : v3.cell? ⟨v2.heap.size, 2, none⟩ = some (.int .i64 ((n1 : Int) + 1)) := H_once.cell 2
      have c_once_3 : v3.cell? ⟨v2.heap.size, 3, none⟩ = some (.int .i64 a3) := H_once.cell 3
      have c_once_4 : v3.cell? ⟨v2.heap.size, 4, none⟩ = some (.int .i64 ((n1 : Int) + 1)) := H_once.cell 4
      have c_once_5 : v3.cell? ⟨v2.heap.size, 5, none⟩ = some (.int .i64 a5) := H_once.cell 5
      have hB' := below_trans hBX hb
      have hU' := below_trans hUX hb
      clear hB hU hBX hUX hb
      have hB := hB'
      have hU := hU'
      clear hB' hU'
      clear hlb
      have hlb : b < v3.heap.size := lt_of_cell (cell_later hU hcell1)
      have hs1 : v3.cell? ⟨b, off + n1, none⟩ = some (.string t1) := cell_later hU hcell1
      go_wp2_with fail
      go_ret
      exact ⟨rfl, by first | exact hB | exact below_alloc hB _ | exact below_alloc (below_alloc hB _) _ | exact below_drewN hB _ | exact below_alloc (below_drewN hB _) _⟩
    · have hlt4 : (n1 : Int) + 1 < a4 := by omega
      have HX_src := Blk.new u2 29 #[.string ByteArray.empty, .slice (some ⟨b, off, none⟩) len0 c]
      have hBX : Below w.heap.size w ((u2).alloc (.cells #[.string ByteArray.empty, .slice (some ⟨b, off, none⟩) len0 c] 29)) := below_alloc hB _
      have hUX : Below u2.heap.size u2 ((u2).alloc (.cells #[.string ByteArray.empty, .slice (some ⟨b, off, none⟩) len0 c] 29)) := below_alloc hU _
      go_wp2_with fail
      refine (makeLoc_any _ _ _ _ _ _ _).mono ?_
      rintro e v1 ⟨rfl, hb⟩
      have H_src' := HX_src.below hb HX_src.lt
      clear HX_src
      have H_src := H_src'
      clear H_src'
      have l_src := H_src.lt
      have c_src_0 : v1.cell? ⟨u2.heap.size, 0, none⟩ = some (.string ByteArray.empty) := H_src.cell 0
      have c_src_1 : v1.cell? ⟨u2.heap.size, 1, none⟩ = some (.slice (some ⟨b, off, none⟩) len0 c) := H_src.cell 1
      have hB' := below_trans hBX hb
      have hU' := below_trans hUX hb
      clear hB hU hBX hUX hb
      have hB := hB'
      have hU := hU'
      clear hB' hU'
      have hlb : b < v1.heap.size := lt_of_cell (cell_later hU hcell1)
      have hs1 : v1.cell? ⟨b, off + n1, none⟩ = some (.string t1) := cell_later hU hcell1
      have HX_src := H_src.alloc (.cells #[.pointer (some ⟨u2.heap.size, 0, none⟩), .string a1, .int .i64 ((n1 : Int) + 1), .int .i64 a3, .int .i64 a4, .int .i64 a5] 33)
      have HX_loc := Blk.new v1 33 #[.pointer (some ⟨u2.heap.size, 0, none⟩), .string a1, .int .i64 ((n1 : Int) + 1), .int .i64 a3, .int .i64 a4, .int .i64 a5]
      have hBX : Below w.heap.size w ((v1).alloc (.cells #[.pointer (some ⟨u2.heap.size, 0, none⟩), .string a1, .int .i64 ((n1 : Int) + 1), .int .i64 a3, .int .i64 a4, .int .i64 a5] 33)) := below_alloc hB _
      have hUX : Below u2.heap.size u2 ((v1).alloc (.cells #[.pointer (some ⟨u2.heap.size, 0, none⟩), .string a1, .int .i64 ((n1 : Int) + 1), .int .i64 a3, .int .i64 a4, .int .i64 a5] 33)) := below_alloc hU _
      go_wp2_with fail
      refine (trim_in _ _ _ _ _ _ _ (some ⟨b, off, none⟩) len0 c t1 _ (by omega) hlt4 (HX_src.cell 1) (by omega) (by omega) hl hsz1 (at_line (cell_later hUX hcell1)) ⟨b, off, rfl⟩).mono ?_
      rintro e v2 ⟨he, hb⟩
      rw [hbc] at he
      subst he
      clear hs1
      have H_src' := HX_src.below hb HX_src.lt
      have H_loc' := HX_loc.below hb HX_loc.lt
      clear HX_src HX_loc
      clear H_src l_src c_src_0 c_src_1
      have H_src := H_src'
      clear H_src'
      have l_src := H_src.lt
      have c_src_0 : v2.cell? ⟨u2.heap.size, 0, none⟩ = some (.string ByteArray.empty) := H_src.cell 0
      have c_src_1 : v2.cell? ⟨u2.heap.size, 1, none⟩ = some (.slice (some ⟨b, off, none⟩) len0 c) := H_src.cell 1
      have H_loc := H_loc'
      clear H_loc'
      have l_loc := H_loc.lt
      have c_loc_0 : v2.cell? ⟨v1.heap.size, 0, none⟩ = some (.pointer (some ⟨u2.heap.size, 0, none⟩)) := H_loc.cell 0
      have c_loc_1 : v2.cell? ⟨v1.heap.size, 1, none⟩ = some (.string a1) := H_loc.cell 1
      have c_loc_2 : v2.cell? ⟨v1.heap.size, 2, none⟩ = some (.int .i64 ((n1 : Int) + 1)) := H_loc.cell 2
      have c_loc_3 : v2.cell? ⟨v1.heap.size, 3, none⟩ = some (.int .i64 a3) := H_loc.cell 3
      have c_loc_4 : v2.cell? ⟨v1.heap.size, 4, none⟩ = some (.int .i64 a4) := H_loc.cell 4
      have c_loc_5 : v2.cell? ⟨v1.heap.size, 5, none⟩ = some (.int .i64 a5) := H_loc.cell 5
      have hB' := below_trans hBX hb
      have hU' := below_trans hUX hb
      clear hB hU hBX hUX hb
      have hB := hB'
      have hU := hU'
      clear hB' hU'
      clear hlb
      have hlb : b < v2.heap.size := lt_of_cell (cell_later hU hcell1)
      have hs1 : v2.cell? ⟨b, off + n1, none⟩ = some (.string t1) := cell_later hU hcell1
      have HX_src := H_src.alloc (.cells #[.pointer (some ⟨u2.heap.size, 0, none⟩), .string a1, .int .i64 ((n1 : Int) + 1), .int .i64 a3, .int .i64 ((n1 : Int) + 1), .int .i64 (t1.size : Int)] 33)
      have HX_loc := H_loc.alloc (.cells #[.pointer (some ⟨u2.heap.size, 0, none⟩), .string a1, .int .i64 ((n1 : Int) + 1), .int .i64 a3, .int .i64 ((n1 : Int) + 1), .int .i64 (t1.size : Int)] 33)
      have HX_once := Blk.new v2 33 #[.pointer (some ⟨u2.heap.size, 0, none⟩), .string a1, .int .i64 ((n1 : Int) + 1), .int .i64 a3, .int .i64 ((n1 : Int) + 1), .int .i64 (t1.size : Int)]
      have hBX : Below w.heap.size w ((v2).alloc (.cells #[.pointer (some ⟨u2.heap.size, 0, none⟩), .string a1, .int .i64 ((n1 : Int) + 1), .int .i64 a3, .int .i64 ((n1 : Int) + 1), .int .i64 (t1.size : Int)] 33)) := below_alloc hB _
      have hUX : Below u2.heap.size u2 ((v2).alloc (.cells #[.pointer (some ⟨u2.heap.size, 0, none⟩), .string a1, .int .i64 ((n1 : Int) + 1), .int .i64 a3, .int .i64 ((n1 : Int) + 1), .int .i64 (t1.size : Int)] 33)) := below_alloc hU _
      go_wp2_with fail
      refine (trim_last _ _ _ _ _ _ _ (Int.le_refl _)).mono ?_
      rintro e v3 ⟨he, hb⟩
      rw [show begCol ((n1 : Int) + 1) a3 ((n1 : Int) + 1) = a3 by unfold begCol; rw [if_pos rfl]] at he
      subst he
      clear hs1
      have H_src' := HX_src.below hb HX_src.lt
      have H_loc' := HX_loc.below hb HX_loc.lt
      have H_once' := HX_once.below hb HX_once.lt
      clear HX_src HX_loc HX_once
      clear H_src l_src c_src_0 c_src_1 H_loc l_loc c_loc_0 c_loc_1 c_loc_2 c_loc_3 c_loc_4 c_loc_5
      have H_src := H_src'
      clear H_src'
      have l_src := H_src.lt
      have c_src_0 : v3.cell? ⟨u2.heap.size, 0, none⟩ = some (.string ByteArray.empty) := H_src.cell 0
      have c_src_1 : v3.cell? ⟨u2.heap.size, 1, none⟩ = some (.slice (some ⟨b, off, none⟩) len0 c) := H_src.cell 1
      have H_loc := H_loc'
      clear H_loc'
      have l_loc := H_loc.lt
      have c_loc_0 : v3.cell? ⟨v1.heap.size, 0, none⟩ = some (.pointer (some ⟨u2.heap.size, 0, none⟩)) := H_loc.cell 0
      have c_loc_1 : v3.cell? ⟨v1.heap.size, 1, none⟩ = some (.string a1) := H_loc.cell 1
      have c_loc_2 : v3.cell? ⟨v1.heap.size, 2, none⟩ = some (.int .i64 ((n1 : Int) + 1)) := H_loc.cell 2
      have c_loc_3 : v3.cell? ⟨v1.heap.size, 3, none⟩ = some (.int .i64 a3) := H_loc.cell 3
      have c_loc_4 : v3.cell? ⟨v1.heap.size, 4, none⟩ = some (.int .i64 a4) := H_loc.cell 4
      have c_loc_5 : v3.cell? ⟨v1.heap.size, 5, none⟩ = some (.int .i64 a5) := H_loc.cell 5
      have H_once := H_once'
      clear H_once'
      have l_once := H_once.lt
      have c_once_0 : v3.cell? ⟨v2.heap.size, 0, none⟩ = some (.pointer (some ⟨u2.heap.size, 0, none⟩)) := H_once.cell 0
      have c_once_1 : v3.cell? ⟨v2.heap.size, 1, none⟩ = some (.string a1) := H_once.cell 1
      have c_once_2 : v3.cell? ⟨v2.heap.size, 2, none⟩ = some (.int .i64 ((n1 : Int) + 1)) := H_once.cell 2
      have c_once_3 : v3.cell? ⟨v2.heap.size, 3, none⟩ = some (.int .i64 a3) := H_once.cell 3
      have c_once_4 : v3.cell? ⟨v2.heap.size, 4, none⟩ = some (.int .i64 ((n1 : Int) + 1)) := H_once.cell 4
      have c_once_5 : v3.cell? ⟨v2.heap.size, 5, none⟩ = some (.int .i64 (t1.size : Int)) := H_once.cell 5
      have hB' := below_trans hBX hb
      have hU' := below_trans hUX hb
      clear hB hU hBX hUX hb
      have hB := hB'
      have hU := hU'
      clear hB' hU'
      clear hlb
      have hlb : b < v3.heap.size := lt_of_cell (cell_later hU hcell1)
      have hs1 : v3.cell? ⟨b, off + n1, none⟩ = some (.string t1) := cell_later hU hcell1
      go_wp2_with fail
      go_ret
      exact ⟨rfl, by first | exact hB | exact below_alloc hB _ | exact below_alloc (below_alloc hB _) _ | exact below_drewN hB _ | exact below_alloc (below_drewN hB _) _⟩
end Go.Proofs.Ytheamgcjnpljfaa.fnTrimToLineIdempotent
