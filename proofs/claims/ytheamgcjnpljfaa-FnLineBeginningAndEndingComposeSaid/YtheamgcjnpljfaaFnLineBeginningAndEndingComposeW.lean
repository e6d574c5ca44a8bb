/- The walk of FnLineBeginningAndEndingCompose. (Written by wip/gen6.py.) -/
import Derived.Test.YtheamgcjnpljfaaFnLineBeginningAndEndingComposeB
import Derived.Test.YtheamgcjnpljfaaC6Copy
import Derived.Test.YtheamgcjnpljfaaC6MakeLoc
import Derived.Test.YtheamgcjnpljfaaC6TooBig
import Derived.Test.YtheamgcjnpljfaaC6LineB
import Derived.Test.YtheamgcjnpljfaaC6LineE
import Derived.Deep.RegionHeld3
namespace Go.Proofs.Ytheamgcjnpljfaa.fnLineBeginningAndEndingCompose
open Go.ChangeShapes Go.WideShapes Go.ChangeAt Go.RowKit
set_option linter.unusedVariables false

theorem at_line {w : World} {b off n : Nat} {t : ByteArray} (h : w.cell? ⟨b, off + n, none⟩ = some (.string t)) (b' off' : Nat) (he : some (⟨b, off, none⟩ : Addr) = some ⟨b', off', none⟩) : w.cell? ⟨b', off' + (((n : Int) + 1).toNat - 1), none⟩ = some (.string t) := by
  have h1 := Option.some.inj he
  injection h1 with h2 h3
  subst h2 h3
  rw [show ((n : Int) + 1).toNat - 1 = n by omega]
  exact h

set_option maxRecDepth 8000 in
set_option maxHeartbeats 4000000 in
theorem walk (a0 : Option Addr) (len0 cap0 : Nat) (s0 : List ByteArray) (a1 : ByteArray) (a2 a3 a4 a5 : Int) (w : World) (w0 : IsStrs w a0 len0 cap0 s0) (w1 : a1.size ≤ maxLen) (w2 : (Lit.int .i64 a2).wf = true) (w3 : (Lit.int .i64 a3).wf = true) (w4 : (Lit.int .i64 a4).wf = true) (w5 : (Lit.int .i64 a5).wf = true) :
    Calls Try.prog 6 #[.slice a0 len0 cap0, .string a1, .int .i64 a2, .int .i64 a3, .int .i64 a4, .int .i64 a5] w fun e w' => e = .returned (.bool true) ∧ Below w.heap.size w w' := by
  go_enter Try.func6, Try.ntmps6
  go_wp2_with fail
  refine (bytes_any _ _ _ _ _ _ _ _ _ _ w0 w1).mono ?_
  rintro e w' ⟨r, rfl, hr, rfl⟩
  cases r
  · go_wp2_with fail
    go_ret
    exact ⟨rfl, Below.refl _ _⟩
  obtain ⟨hl, hsh, hfn⟩ := hr rfl
  clear hr
  go_wp2_with fail
  all_goals try (go_ret; exact ⟨rfl, Below.refl _ _⟩)
  refine (tooBig_any _ _ _ _ _ _ w0 w1).mono ?_
  rintro e w' ⟨r, rfl, _, rfl⟩
  cases r
  rotate_left
  · go_wp2_with fail
    go_ret
    exact ⟨rfl, Below.refl _ _⟩
  go_wp2_with fail
  all_goals try (go_ret; exact ⟨rfl, Below.refl _ _⟩)
  refine (clone_any _ _ _ s0 _ w0 hl).mono ?_
  intro e u2 hcp
  obtain ⟨x, c, rfl, _, hB, hst, _⟩ := hcp.u w0 hl
  clear hcp
  have hU : Below u2.heap.size u2 u2 := Below.refl _ _
  have hpe := fun W => equalIn_ptr_same (P := Try.prog) W 9998 (tp := 26) (n := 2) ⟨u2.heap.size, 0, none⟩ Try.underlying26 (by kernel_rfl)
  have hpp := fun W => neq_ptr_same (P := Try.prog) W (tp := 26) (n := 2) ⟨u2.heap.size, 0, none⟩ Try.underlying26 (by kernel_rfl)
  have hA : (1 ≤ a4 ∧ a4 ≤ (len0 : Int)) ∨ (a4 < 1 ∨ (len0 : Int) < a4) := by omega
  have hD : (1 ≤ a2 ∧ a2 ≤ (len0 : Int)) ∨ (a2 < 1 ∨ (len0 : Int) < a2) := by omega
  rcases hA with ⟨hA1, hA2⟩ | hA1 | hA1
  · rcases hD with ⟨hD1, hD2⟩ | hD1 | hD1
    · obtain ⟨n1, rfl⟩ : ∃ n : Nat, a4 = (n : Int) + 1 := ⟨(a4 - 1).toNat, by omega⟩
      have hn1 : n1 < len0 := by omega
      have hn1' : (n1 : Int) < (len0 : Int) := by omega
      have hn10 : (0 : Int) ≤ (n1 : Int) := by omega
      obtain ⟨n2, rfl⟩ : ∃ n : Nat, a2 = (n : Int) + 1 := ⟨(a2 - 1).toNat, by omega⟩
      have hn2 : n2 < len0 := by omega
      have hn2' : (n2 : Int) < (len0 : Int) := by omega
      have hn20 : (0 : Int) ≤ (n2 : Int) := by omega
      obtain ⟨b, off, t1, rfl, hblt, hs, hsz1, hcell1⟩ := hst.at_ hn1
      clear hs
      obtain ⟨b', off', t2, hbb, hblt2, hs2, hsz2, hcell2⟩ := hst.at_ hn2
      injection hbb with hbb
      injection hbb with hb1 hb2
      subst hb1 hb2
      clear hs2
      have hw1 : IntKind.i64.wrap ((n2 : Int) + 1 - 1) = (n2 : Int) := by rw [show (n2 : Int) + 1 - 1 = (n2 : Int) by omega]; exact IntWalk.i64_in _ ⟨by omega, by omega⟩
      have hid : ((n2 : Int) + 1 - 1) = (n2 : Int) := by omega
      have hdA1 : decide ((1 : Int) ≤ ((n1 : Int) + 1)) = true := decide_eq_true (by omega)
      have hdA2 : decide (((n1 : Int) + 1) ≤ (len0 : Int)) = true := decide_eq_true (by omega)
      have hdD1 : decide ((1 : Int) ≤ ((n2 : Int) + 1)) = true := decide_eq_true (by omega)
      have hdD2 : decide (((n2 : Int) + 1) ≤ (len0 : Int)) = true := decide_eq_true (by omega)
      have HX_src := Blk.new u2 29 #[.string ByteArray.empty, .slice (some ⟨b, off, none⟩) len0 c]
      have hBX : Below w.heap.size w ((u2).alloc (.cells #[.string ByteArray.empty, .slice (some ⟨b, off, none⟩) len0 c] 29)) := below_alloc hB _
      have hUX : Below u2.heap.size u2 ((u2).alloc (.cells #[.string ByteArray.empty, .slice (some ⟨b, off, none⟩) len0 c] 29)) := below_alloc hU _
      go_wp2_with fail
      refine (makeLoc_any _ _ _ _ _ _ _).mono ?_
      rintro e v1 ⟨rfl, hb⟩
      have H_src' := HX_src.below hb HX_src.lt
      clear HX_src
      have H_src := H_src'
      clear H_src'
      have l_src := H_src.lt
      have c_src_0 : v1.cell? ⟨u2.heap.size, 0, none⟩ = some (.string ByteArray.empty) := H_src.cell 0
      have c_src_1 : v1.cell? ⟨u2.heap.size, 1, none⟩ = some (.slice (some ⟨b, off, none⟩) len0 c) := H_src.cell 1
      have hB' := below_trans hBX hb
      have hU' := below_trans hUX hb
      clear hB hU hBX hUX hb
      have hB := hB'
      have hU := hU'
      clear hB' hU'
      have hlb : b < v1.heap.size := lt_of_cell (cell_later hU hcell1)
      have hs1 : v1.cell? ⟨b, off + n1, none⟩ = some (.string t1) := cell_later hU hcell1
      have hs2 : v1.cell? ⟨b, off + n2, none⟩ = some (.string t2) := cell_later hU hcell2
      have HX_src := H_src.alloc (.cells #[.pointer (some ⟨u2.heap.size, 0, none⟩), .string a1, .int .i64 ((n2 : Int) + 1), .int .i64 a3, .int .i64 ((n1 : Int) + 1), .int .i64 a5] 33)
      have HX_loc := Blk.new v1 33 #[.pointer (some ⟨u2.heap.size, 0, none⟩), .string a1, .int .i64 ((n2 : Int) + 1), .int .i64 a3, .int .i64 ((n1 : Int) + 1), .int .i64 a5]
      have hBX : Below w.heap.size w ((v1).alloc (.cells #[.pointer (some ⟨u2.heap.size, 0, none⟩), .string a1, .int .i64 ((n2 : Int) + 1), .int .i64 a3, .int .i64 ((n1 : Int) + 1), .int .i64 a5] 33)) := below_alloc hB _
      have hUX : Below u2.heap.size u2 ((v1).alloc (.cells #[.pointer (some ⟨u2.heap.size, 0, none⟩), .string a1, .int .i64 ((n2 : Int) + 1), .int .i64 a3, .int .i64 ((n1 : Int) + 1), .int .i64 a5] 33)) := below_alloc hU _
      go_wp2_with fail
      refine (lineE_any _ _ _ a1 a5 n1 b off len0 c t1 _ (HX_loc.cell 0) (HX_loc.cell 1) (HX_loc.cell 4) (HX_loc.cell 5) (HX_src.cell 1) hn1 hl (cell_later hUX hcell1) hsz1).mono ?_
      rintro e v2 ⟨rfl, hb⟩
      clear hs1 hs2
      have H_src' := HX_src.below hb HX_src.lt
      have H_loc' := HX_loc.below hb HX_loc.lt
      clear HX_src HX_loc
      clear H_src l_src c_src_0 c_src_1
      have H_src := H_src'
      clear H_src'
      have l_src := H_src.lt
      have c_src_0 : v2.cell? ⟨u2.heap.size, 0, none⟩ = some (.string ByteArray.empty) := H_src.cell 0
      have c_src_1 : v2.cell? ⟨u2.heap.size, 1, none⟩ = some (.slice (some ⟨b, off, none⟩) len0 c) := H_src.cell 1
      have H_loc := H_loc'
      clear H_loc'
      have l_loc := H_loc.lt
      have c_loc_0 : v2.cell? ⟨v1.heap.size, 0, none⟩ = some (.pointer (some ⟨u2.heap.size, 0, none⟩)) := H_loc.cell 0
      have c_loc_1 : v2.cell? ⟨v1.heap.size, 1, none⟩ = some (.string a1) := H_loc.cell 1
      have c_loc_2 : v2.cell? ⟨v1.heap.size, 2, none⟩ = some (.int .i64 ((n2 : Int) + 1)) := H_loc.cell 2
      have c_loc_3 : v2.cell? ⟨v1.heap.size, 3, none⟩ = some (.int .i64 a3) := H_loc.cell 3
      have c_loc_4 : v2.cell? ⟨v1.heap.size, 4, none⟩ = some (.int .i64 ((n1 : Int) + 1)) := H_loc.cell 4
      have c_loc_5 : v2.cell? ⟨v1.heap.size, 5, none⟩ = some (.int .i64 a5) := H_loc.cell 5
      have hB' := below_trans hBX hb
      have hU' := below_trans hUX hb
      clear hB hU hBX hUX hb
      have hB := hB'
      have hU := hU'
      clear hB' hU'
      clear hlb
      have hlb : b < v2.heap.size := lt_of_cell (cell_later hU hcell1)
      have hs1 : v2.cell? ⟨b, off + n1, none⟩ = some (.string t1) := cell_later hU hcell1
      have hs2 : v2.cell? ⟨b, off + n2, none⟩ = some (.string t2) := cell_later hU hcell2
      have HX_src := H_src.alloc (.cells #[.pointer (some ⟨u2.heap.size, 0, none⟩), .string a1, .int .i64 ((n1 : Int) + 1), .int .i64 a5, .int .i64 ((n1 : Int) + 1), .int .i64 (t1.size : Int)] 33)
      have HX_loc := H_loc.alloc (.cells #[.pointer (some ⟨u2.heap.size, 0, none⟩), .string a1, .int .i64 ((n1 : Int) + 1), .int .i64 a5, .int .i64 ((n1 : Int) + 1), .int .i64 (t1.size : Int)] 33)
      have HX_le := Blk.new v2 33 #[.pointer (some ⟨u2.heap.size, 0, none⟩), .string a1, .int .i64 ((n1 : Int) + 1), .int .i64 a5, .int .i64 ((n1 : Int) + 1), .int .i64 (t1.size : Int)]
      have hBX : Below w.heap.size w ((v2).alloc (.cells #[.pointer (some ⟨u2.heap.size, 0, none⟩), .string a1, .int .i64 ((n1 : Int) + 1), .int .i64 a5, .int .i64 ((n1 : Int) + 1), .int .i64 (t1.size : Int)] 33)) := below_alloc hB _
      have hUX : Below u2.heap.size u2 ((v2).alloc (.cells #[.pointer (some ⟨u2.heap.size, 0, none⟩), .string a1, .int .i64 ((n1 : Int) + 1), .int .i64 a5, .int .i64 ((n1 : Int) + 1), .int .i64 (t1.size : Int)] 33)) := below_alloc hU _
      go_wp2_with fail
      refine (lineB_any _ _ _ _ _ _ _ (HX_le.cell 0) (HX_le.cell 1) (HX_le.cell 2) (HX_le.cell 3)).mono ?_
      rintro e v3 ⟨rfl, hb⟩
      clear hs1 hs2
      have H_src' := HX_src.below hb HX_src.lt
      have H_loc' := HX_loc.below hb HX_loc.lt
      have H_le' := HX_le.below hb HX_le.lt
      clear HX_src HX_loc HX_le
      clear H_src l_src c_src_0 c_src_1 H_loc l_loc c_loc_0 c_loc_1 c_loc_2 c_loc_3 c_loc_4 c_loc_5
      have H_src := H_src'
      clear H_src'
      have l_src := H_src.lt
      have c_src_0 : v3.cell? ⟨u2.heap.size, 0, none⟩ = some (.string ByteArray.empty) := H_src.cell 0
      have c_src_1 : v3.cell? ⟨u2.heap.size, 1, none⟩ = some (.slice (some ⟨b, off, none⟩) len0 c) := H_src.cell 1
      have H_loc := H_loc'
      clear H_loc'
      have l_loc := H_loc.lt
      have c_loc_0 : v3.cell? ⟨v1.heap.size, 0, none⟩ = some (.pointer (some ⟨u2.heap.size, 0, none⟩)) := H_loc.cell 0
      have c_loc_1 : v3.cell? ⟨v1.heap.size, 1, none⟩ = some (.string a1) := H_loc.cell 1
      have c_loc_2 : v3.cell? ⟨v1.heap.size, 2, none⟩ = some (.int .i64 ((n2 : Int) + 1)) := H_loc.cell 2
      have c_loc_3 : v3.cell? ⟨v1.heap.size, 3, none⟩ = some (.int .i64 a3) := H_loc.cell 3
      have c_loc_4 : v3.cell? ⟨v1.heap.size, 4, none⟩ = some (.int .i64 ((n1 : Int) + 1)) := H_loc.cell 4
      have c_loc_5 : v3.cell? ⟨v1.heap.size, 5, none⟩ = some (.int .i64 a5) := H_loc.cell 5
      have H_le := H_le'
      clear H_le'
      have l_le := H_le.lt
      have c_le_0 : v3.cell? ⟨v2.heap.size, 0, none⟩ = some (.pointer (some ⟨u2.heap.size, 0, none⟩)) := H_le.cell 0
      have c_le_1 : v3.cell? ⟨v2.heap.size, 1, none⟩ = some (.string a1) := H_le.cell 1
      have c_le_2 : v3.cell? ⟨v2.heap.size, 2, none⟩ = some (.int .i64 ((n1 : Int) + 1)) := H_le.cell 2
      have c_le_3 : v3.cell? ⟨v2.heap.size, 3, none⟩ = some (.int .i64 a5) := H_le.cell 3
      have c_le_4 : v3.cell? ⟨v2.heap.size, 4, none⟩ = some (.int .i64 ((n1 : Int) + 1)) := H_le.cell 4
      have c_le_5 : v3.cell? ⟨v2.heap.size, 5, none⟩ = some (.int .i64 (t1.size : Int)) := H_le.cell 5
      have hB' := below_trans hBX hb
      have hU' := below_trans hUX hb
      clear hB hU hBX hUX hb
      have hB := hB'
      have hU := hU'
      clear hB' hU'
      clear hlb
      have hlb : b < v3.heap.size := lt_of_cell (cell_later hU hcell1)
      have hs1 : v3.cell? ⟨b, off + n1, none⟩ = some (.string t1) := cell_later hU hcell1
      have hs2 : v3.cell? ⟨b, off + n2, none⟩ = some (.string t2) := cell_later hU hcell2
      have HX_src := (H_src.alloc (.cells #[.pointer (some ⟨u2.heap.size, 0, none⟩), .string a1, .int .i64 ((n1 : Int) + 1), .int .i64 1, .int .i64 ((n1 : Int) + 1), .int .i64 a5] 33)).alloc (.cells #[.pointer (some ⟨u2.heap.size, 0, none⟩), .string a1, .int .i64 ((n1 : Int) + 1), .int .i64 a5, .int .i64 0, .int .i64 0] 33)
      have HX_loc := (H_loc.alloc (.cells #[.pointer (some ⟨u2.heap.size, 0, none⟩), .string a1, .int .i64 ((n1 : Int) + 1), .int .i64 1, .int .i64 ((n1 : Int) + 1), .int .i64 a5] 33)).alloc (.cells #[.pointer (some ⟨u2.heap.size, 0, none⟩), .string a1, .int .i64 ((n1 : Int) + 1), .int .i64 a5, .int .i64 0, .int .i64 0] 33)
      have HX_le := (H_le.alloc (.cells #[.pointer (some ⟨u2.heap.size, 0, none⟩), .string a1, .int .i64 ((n1 : Int) + 1), .int .i64 1, .int .i64 ((n1 : Int) + 1), .int .i64 a5] 33)).alloc (.cells #[.pointer (some ⟨u2.heap.size, 0, none⟩), .string a1, .int .i64 ((n1 : Int) + 1), .int .i64 a5, .int .i64 0, .int .i64 0] 33)
      have HX_got := (Blk.new v3 33 #[.pointer (some ⟨u2.heap.size, 0, none⟩), .string a1, .int .i64 ((n1 : Int) + 1), .int .i64 1, .int .i64 ((n1 : Int) + 1), .int .i64 a5]).alloc (.cells #[.pointer (some ⟨u2.heap.size, 0, none⟩), .string a1, .int .i64 ((n1 : Int) + 1), .int .i64 a5, .int .i64 0, .int .i64 0] 33)
      have HX_probe := Blk.new1 v3 (.cells #[.pointer (some ⟨u2.heap.size, 0, none⟩), .string a1, .int .i64 ((n1 : Int) + 1), .int .i64 1, .int .i64 ((n1 : Int) + 1), .int .i64 a5] 33) 33 #[.pointer (some ⟨u2.heap.size, 0, none⟩), .string a1, .int .i64 ((n1 : Int) + 1), .int .i64 a5, .int .i64 0, .int .i64 0]
      have hBX : Below w.heap.size w (((v3).alloc (.cells #[.pointer (some ⟨u2.heap.size, 0, none⟩), .string a1, .int .i64 ((n1 : Int) + 1), .int .i64 1, .int .i64 ((n1 : Int) + 1), .int .i64 a5] 33)).alloc (.cells #[.pointer (some ⟨u2.heap.size, 0, none⟩), .string a1, .int .i64 ((n1 : Int) + 1), .int .i64 a5, .int .i64 0, .int .i64 0] 33)) := below_alloc (below_alloc hB _) _
      have hUX : Below u2.heap.size u2 (((v3).alloc (.cells #[.pointer (some ⟨u2.heap.size, 0, none⟩), .string a1, .int .i64 ((n1 : Int) + 1), .int .i64 1, .int .i64 ((n1 : Int) + 1), .int .i64 a5] 33)).alloc (.cells #[.pointer (some ⟨u2.heap.size, 0, none⟩), .string a1, .int .i64 ((n1 : Int) + 1), .int .i64 a5, .int .i64 0, .int .i64 0] 33)) := below_alloc (below_alloc hU _) _
      go_wp2_with fail
      have hq4 := HX_got.lt
      have q4_0 : (((v3).alloc (.cells #[.pointer (some ⟨u2.heap.size, 0, none⟩), .string a1, .int .i64 ((n1 : Int) + 1), .int .i64 1, .int .i64 ((n1 : Int) + 1), .int .i64 a5] 33)).alloc (.cells #[.pointer (some ⟨u2.heap.size, 0, none⟩), .string a1, .int .i64 ((n1 : Int) + 1), .int .i64 a5, .int .i64 0, .int .i64 0] 33)).cell? ⟨v3.heap.size, 0, none⟩ = some (.pointer (some ⟨u2.heap.size, 0, none⟩)) := HX_got.cell 0
      have q4_1 : (((v3).alloc (.cells #[.pointer (some ⟨u2.heap.size, 0, none⟩), .string a1, .int .i64 ((n1 : Int) + 1), .int .i64 1, .int .i64 ((n1 : Int) + 1), .int .i64 a5] 33)).alloc (.cells #[.pointer (some ⟨u2.heap.size, 0, none⟩), .string a1, .int .i64 ((n1 : Int) + 1), .int .i64 a5, .int .i64 0, .int .i64 0] 33)).cell? ⟨v3.heap.size, 1, none⟩ = some (.string a1) := HX_got.cell 1
      have q4_2 : (((v3).alloc (.cells #[.pointer (some ⟨u2.heap.size, 0, none⟩), .string a1, .int .i64 ((n1 : Int) + 1), .int .i64 1, .int .i64 ((n1 : Int) + 1), .int .i64 a5] 33)).alloc (.cells #[.pointer (some ⟨u2.heap.size, 0, none⟩), .string a1, .int .i64 ((n1 : Int) + 1), .int .i64 a5, .int .i64 0, .int .i64 0] 33)).cell? ⟨v3.heap.size, 2, none⟩ = some (.int .i64 ((n1 : Int) + 1)) := HX_got.cell 2
      have q4_3 : (((v3).alloc (.cells #[.pointer (some ⟨u2.heap.size, 0, none⟩), .string a1, .int .i64 ((n1 : Int) + 1), .int .i64 1, .int .i64 ((n1 : Int) + 1), .int .i64 a5] 33)).alloc (.cells #[.pointer (some ⟨u2.heap.size, 0, none⟩), .string a1, .int .i64 ((n1 : Int) + 1), .int .i64 a5, .int .i64 0, .int .i64 0] 33)).cell? ⟨v3.heap.size, 3, none⟩ = some (.int .i64 1) := HX_got.cell 3
      have q4_4 : (((v3).alloc (.cells #[.pointer (some ⟨u2.heap.size, 0, none⟩), .string a1, .int .i64 ((n1 : Int) + 1), .int .i64 1, .int .i64 ((n1 : Int) + 1), .int .i64 a5] 33)).alloc (.cells #[.pointer (some ⟨u2.heap.size, 0, none⟩), .string a1, .int .i64 ((n1 : Int) + 1), .int .i64 a5, .int .i64 0, .int .i64 0] 33)).cell? ⟨v3.heap.size, 4, none⟩ = some (.int .i64 ((n1 : Int) + 1)) := HX_got.cell 4
      have q4_5 : (((v3).alloc (.cells #[.pointer (some ⟨u2.heap.size, 0, none⟩), .string a1, .int .i64 ((n1 : Int) + 1), .int .i64 1, .int .i64 ((n1 : Int) + 1), .int .i64 a5] 33)).alloc (.cells #[.pointer (some ⟨u2.heap.size, 0, none⟩), .string a1, .int .i64 ((n1 : Int) + 1), .int .i64 a5, .int .i64 0, .int .i64 0] 33)).cell? ⟨v3.heap.size, 5, none⟩ = some (.int .i64 a5) := HX_got.cell 5
      have HY_src := HX_src.drew
      clear HX_src
      have HX_src := HY_src
      clear HY_src
      have HY_loc := HX_loc.drew
      clear HX_loc
      have HX_loc := HY_loc
      clear HY_loc
      have HY_le := HX_le.drew
      clear HX_le
      have HX_le := HY_le
      clear HY_le
      have HY_got := HX_got.drew
      clear HX_got
      have HX_got := HY_got
      clear HY_got
      have HY_probe := HX_probe.drew
      clear HX_probe
      have HX_probe := HY_probe
      clear HY_probe
      have hBY := Below.drew hBX
      have hUY := Below.drew hUX
      clear hBX hUX
      have hBX := hBY
      have hUX := hUY
      clear hBY hUY
      go_region_held3 (fun w' => w'.cell? ⟨v3.heap.size, 0, none⟩ = some (.pointer (some ⟨u2.heap.size, 0, none⟩)) ∧ w'.cell? ⟨v3.heap.size, 1, none⟩ = some (.string a1) ∧ w'.cell? ⟨v3.heap.size, 2, none⟩ = some (.int .i64 ((n1 : Int) + 1)) ∧ w'.cell? ⟨v3.heap.size, 3, none⟩ = some (.int .i64 1) ∧ w'.cell? ⟨v3.heap.size, 4, none⟩ = some (.int .i64 ((n1 : Int) + 1)) ∧ w'.cell? ⟨v3.heap.size, 5, none⟩ = some (.int .i64 a5)) (first | go_keep | (go_split_ands; refine ⟨cell_later hb (by assumption), cell_later hb (by assumption), cell_later hb (by assumption), cell_later hb (by assumption), cell_later hb (by assumption), cell_later hb (by assumption)⟩)) (first | (go_at_call 15; refine (lineB_any _ _ _ _ _ _ _ (HX_probe.cell 0) (HX_probe.cell 1) (HX_probe.cell 2) (HX_probe.cell 3)).mono ?_; rintro e v4 ⟨rfl, hb⟩; obtain ⟨hc4, hf4⟩ := bcell hb))
      clear hc4 hf4 hq4 q4_0 q4_1 q4_2 q4_3 q4_4 q4_5
      clear hs1 hs2
      have H_src' := HX_src.below hb HX_src.lt
      have H_loc' := HX_loc.below hb HX_loc.lt
      have H_le' := HX_le.below hb HX_le.lt
      have H_got' := HX_got.below hb HX_got.lt
      have H_probe' := HX_probe.below hb HX_probe.lt
      clear HX_src HX_loc HX_le HX_got HX_probe
      clear H_src l_src c_src_0 c_src_1 H_loc l_loc c_loc_0 c_loc_1 c_loc_2 c_loc_3 c_loc_4 c_loc_5 H_le l_le c_le_0 c_le_1 c_le_2 c_le_3 c_le_4 c_le_5
      have H_src := H_src'
      clear H_src'
      have l_src := H_src.lt
      have c_src_0 : v4.cell? ⟨u2.heap.size, 0, none⟩ = some (.string ByteArray.empty) := H_src.cell 0
      have c_src_1 : v4.cell? ⟨u2.heap.size, 1, none⟩ = some (.slice (some ⟨b, off, none⟩) len0 c) := H_src.cell 1
      have H_loc := H_loc'
      clear H_loc'
      have l_loc := H_loc.lt
      have c_loc_0 : v4.cell? ⟨v1.heap.size, 0, none⟩ = some (.pointer (some ⟨u2.heap.size, 0, none⟩)) := H_loc.cell 0
      have c_loc_1 : v4.cell? ⟨v1.heap.size, 1, none⟩ = some (.string a1) := H_loc.cell 1
      have c_loc_2 : v4.cell? ⟨v1.heap.size, 2, none⟩ = some (.int .i64 ((n2 : Int) + 1)) := H_loc.cell 2
      have c_loc_3 : v4.cell? ⟨v1.heap.size, 3, none⟩ = some (.int .i64 a3) := H_loc.cell 3
      have c_loc_4 : v4.cell? ⟨v1.heap.size, 4, none⟩ = some (.int .i64 ((n1 : Int) + 1)) := H_loc.cell 4
      have c_loc_5 : v4.cell? ⟨v1.heap.size, 5, none⟩ = some (.int .i64 a5) := H_loc.cell 5
      have H_le := H_le'
      clear H_le'
      have l_le := H_le.lt
      have c_le_0 : v4.cell? ⟨v2.heap.size, 0, none⟩ = some (.pointer (some ⟨u2.heap.size, 0, none⟩)) := H_le.cell 0
      have c_le_1 : v4.cell? ⟨v2.heap.size, 1, none⟩ = some (.string a1) := H_le.cell 1
      have c_le_2 : v4.cell? ⟨v2.heap.size, 2, none⟩ = some (.int .i64 ((n1 : Int) + 1)) := H_le.cell 2
      have c_le_3 : v4.cell? ⟨v2.heap.size, 3, none⟩ = some (.int .i64 a5) := H_le.cell 3
      have c_le_4 : v4.cell? ⟨v2.heap.size, 4, none⟩ = some (.int .i64 ((n1 : Int) + 1)) := H_le.cell 4
      have c_le_5 : v4.cell? ⟨v2.heap.size, 5, none⟩ = some (.int .i64 (t1.size : Int)) := H_le.cell 5
      have H_got := H_got'
      clear H_got'
      have l_got := H_got.lt
      have c_got_0 : v4.cell? ⟨v3.heap.size, 0, none⟩ = some (.pointer (some ⟨u2.heap.size, 0, none⟩)) := H_got.cell 0
      have c_got_1 : v4.cell? ⟨v3.heap.size, 1, none⟩ = some (.string a1) := H_got.cell 1
      have c_got_2 : v4.cell? ⟨v3.heap.size, 2, none⟩ = some (.int .i64 ((n1 : Int) + 1)) := H_got.cell 2
      have c_got_3 : v4.cell? ⟨v3.heap.size, 3, none⟩ = some (.int .i64 1) := H_got.cell 3
      have c_got_4 : v4.cell? ⟨v3.heap.size, 4, none⟩ = some (.int .i64 ((n1 : Int) + 1)) := H_got.cell 4
      have c_got_5 : v4.cell? ⟨v3.heap.size, 5, none⟩ = some (.int .i64 a5) := H_got.cell 5
      have H_probe := H_probe'
      clear H_probe'
      have l_probe := H_probe.lt
      have c_probe_0 : v4.cell? ⟨v3.heap.size + 1, 0, none⟩ = some (.pointer (some ⟨u2.heap.size, 0, none⟩)) := H_probe.cell 0
      have c_probe_1 : v4.cell? ⟨v3.heap.size + 1, 1, none⟩ = some (.string a1) := H_probe.cell 1
      have c_probe_2 : v4.cell? ⟨v3.heap.size + 1, 2, none⟩ = some (.int .i64 ((n1 : Int) + 1)) := H_probe.cell 2
      have c_probe_3 : v4.cell? ⟨v3.heap.size + 1, 3, none⟩ = some (.int .i64 a5) := H_probe.cell 3
      have c_probe_4 : v4.cell? ⟨v3.heap.size + 1, 4, none⟩ = some (.int .i64 0) := H_probe.cell 4
      have c_probe_5 : v4.cell? ⟨v3.heap.size + 1, 5, none⟩ = some (.int .i64 0) := H_probe.cell 5
      have hB' := below_trans hBX hb
      have hU' := below_trans hUX hb
      clear hB hU hBX hUX hb
      have hB := hB'
      have hU := hU'
      clear hB' hU'
      clear hlb
      have hlb : b < v4.heap.size := lt_of_cell (cell_later hU hcell1)
      have hs1 : v4.cell? ⟨b, off + n1, none⟩ = some (.string t1) := cell_later hU hcell1
      have hs2 : v4.cell? ⟨b, off + n2, none⟩ = some (.string t2) := cell_later hU hcell2
      have HX_src := H_src
      have HX_loc := H_loc
      have HX_le := H_le
      have HX_got := H_got
      have HX_probe := H_probe
      have hBX : Below w.heap.size w (v4) := hB
      have hUX : Below u2.heap.size u2 (v4) := hU
      go_wp2_with fail
      refine (lineB_any _ _ _ _ _ _ _ (HX_loc.cell 0) (HX_loc.cell 1) (HX_loc.cell 2) (HX_loc.cell 3)).mono ?_
      rintro e v5 ⟨rfl, hb⟩
      clear hs1 hs2
      have H_src' := HX_src.below hb HX_src.lt
      have H_loc' := HX_loc.below hb HX_loc.lt
      have H_le' := HX_le.below hb HX_le.lt
      have H_got' := HX_got.below hb HX_got.lt
      have H_probe' := HX_probe.below hb HX_probe.lt
      clear HX_src HX_loc HX_le HX_got HX_probe
      clear H_src l_src c_src_0 c_src_1 H_loc l_loc c_loc_0 c_loc_1 c_loc_2 c_loc_3 c_loc_4 c_loc_5 H_le l_le c_le_0 c_le_1 c_le_2 c_le_3 c_le_4 c_le_5 H_got l_got c_got_0 c_got_1 c_got_2 c_got_3 c_got_4 c_got_5 H_probe l_probe c_probe_0 c_probe_1 c_probe_2 c_probe_3 c_probe_4 c_probe_5
      have H_src := H_src'
      clear H_src'
      have l_src := H_src.lt
      have c_src_0 : v5.cell? ⟨u2.heap.size, 0, none⟩ = some (.string ByteArray.empty) := H_src.cell 0
      have c_src_1 : v5.cell? ⟨u2.heap.size, 1, none⟩ = some (.slice (some ⟨b, off, none⟩) len0 c) := H_src.cell 1
      have H_loc := H_loc'
      clear H_loc'
      have l_loc := H_loc.lt
      have c_loc_0 : v5.cell? ⟨v1.heap.size, 0, none⟩ = some (.pointer (some ⟨u2.heap.size, 0, none⟩)) := H_loc.cell 0
      have c_loc_1 : v5.cell? ⟨v1.heap.size, 1, none⟩ = some (.string a1) := H_loc.cell 1
      have c_loc_2 : v5.cell? ⟨v1.heap.size, 2, none⟩ = some (.int .i64 ((n2 : Int) + 1)) := H_loc.cell 2
      have c_loc_3 : v5.cell? ⟨v1.heap.size, 3, none⟩ = some (.int .i64 a3) := H_loc.cell 3
      have c_loc_4 : v5.cell? ⟨v1.heap.size, 4, none⟩ = some (.int .i64 ((n1 : Int) + 1)) := H_loc.cell 4
      have c_loc_5 : v5.cell? ⟨v1.heap.size, 5, none⟩ = some (.int .i64 a5) := H_loc.cell 5
      have H_le := H_le'
      clear H_le'
      have l_le := H_le.lt
      have c_le_0 : v5.cell? ⟨v2.heap.size, 0, none⟩ = some (.pointer (some ⟨u2.heap.size, 0, none⟩)) := H_le.cell 0
      have c_le_1 : v5.cell? ⟨v2.heap.size, 1, none⟩ = some (.string a1) := H_le.cell 1
      have c_le_2 : v5.cell? ⟨v2.heap.size, 2, none⟩ = some (.int .i64 ((n1 : Int) + 1)) := H_le.cell 2
      have c_le_3 : v5.cell? ⟨v2.heap.size, 3, none⟩ = some (.int .i64 a5) := H_le.cell 3
      have c_le_4 : v5.cell? ⟨v2.heap.size, 4, none⟩ = some (.int .i64 ((n1 : Int) + 1)) := H_le.cell 4
      have c_le_5 : v5.cell? ⟨v2.heap.size, 5, none⟩ = some (.int .i64 (t1.size : Int)) := H_le.cell 5
      have H_got := H_got'
      clear H_got'
      have l_got := H_got.lt
      have c_got_0 : v5.cell? ⟨v3.heap.size, 0, none⟩ = some (.pointer (some ⟨u2.heap.size, 0, none⟩)) := H_got.cell 0
      have c_got_1 : v5.cell? ⟨v3.heap.size, 1, none⟩ = some (.string a1) := H_got.cell 1
      have c_got_2 : v5.cell? ⟨v3.heap.size, 2, none⟩ = some (.int .i64 ((n1 : Int) + 1)) := H_got.cell 2
      have c_got_3 : v5.cell? ⟨v3.heap.size, 3, none⟩ = some (.int .i64 1) := H_got.cell 3
      have c_got_4 : v5.cell? ⟨v3.heap.size, 4, none⟩ = some (.int .i64 ((n1 : Int) + 1)) := H_got.cell 4
      have c_got_5 : v5.cell? ⟨v3.heap.size, 5, none⟩ = some (.int .i64 a5) := H_got.cell 5
      have H_probe := H_probe'
      clear H_probe'
      have l_probe := H_probe.lt
      have c_probe_0 : v5.cell? ⟨v3.heap.size + 1, 0, none⟩ = some (.pointer (some ⟨u2.heap.size, 0, none⟩)) := H_probe.cell 0
      have c_probe_1 : v5.cell? ⟨v3.heap.size + 1, 1, none⟩ = some (.string a1) := H_probe.cell 1
      have c_probe_2 : v5.cell? ⟨v3.heap.size + 1, 2, none⟩ = some (.int .i64 ((n1 : Int) + 1)) := H_probe.cell 2
      have c_probe_3 : v5.cell? ⟨v3.heap.size + 1, 3, none⟩ = some (.int .i64 a5) := H_probe.cell 3
      have c_probe_4 : v5.cell? ⟨v3.heap.size + 1, 4, none⟩ = some (.int .i64 0) := H_probe.cell 4
      have c_probe_5 : v5.cell? ⟨v3.heap.size + 1, 5, none⟩ = some (.int .i64 0) := H_probe.cell 5
      have hB' := below_trans hBX hb
      have hU' := below_trans hUX hb
      clear hB hU hBX hUX hb
      have hB := hB'
      have hU := hU'
      clear hB' hU'
      clear hlb
      have hlb : b < v5.heap.size := lt_of_cell (cell_later hU hcell1)
      have hs1 : v5.cell? ⟨b, off + n1, none⟩ = some (.string t1) := cell_later hU hcell1
      have hs2 : v5.cell? ⟨b, off + n2, none⟩ = some (.string t2) := cell_later hU hcell2
      have HX_src := H_src.alloc (.cells #[.pointer (some ⟨u2.heap.size, 0, none⟩), .string a1, .int .i64 ((n2 : Int) + 1), .int .i64 1, .int .i64 ((n2 : Int) + 1), .int .i64 a3] 33)
      have HX_loc := H_loc.alloc (.cells #[.pointer (some ⟨u2.heap.size, 0, none⟩), .string a1, .int .i64 ((n2 : Int) + 1), .int .i64 1, .int .i64 ((n2 : Int) + 1), .int .i64 a3] 33)
      have HX_le := H_le.alloc (.cells #[.pointer (some ⟨u2.heap.size, 0, none⟩), .string a1, .int .i64 ((n2 : Int) + 1), .int .i64 1, .int .i64 ((n2 : Int) + 1), .int .i64 a3] 33)
      have HX_got := H_got.alloc (.cells #[.pointer (some ⟨u2.heap.size, 0, none⟩), .string a1, .int .i64 ((n2 : Int) + 1), .int .i64 1, .int .i64 ((n2 : Int) + 1), .int .i64 a3] 33)
      have HX_probe := H_probe.alloc (.cells #[.pointer (some ⟨u2.heap.size, 0, none⟩), .string a1, .int .i64 ((n2 : Int) + 1), .int .i64 1, .int .i64 ((n2 : Int) + 1), .int .i64 a3] 33)
      have HX_lb := Blk.new v5 33 #[.pointer (some ⟨u2.heap.size, 0, none⟩), .string a1, .int .i64 ((n2 : Int) + 1), .int .i64 1, .int .i64 ((n2 : Int) + 1), .int .i64 a3]
      have hBX : Below w.heap.size w ((v5).alloc (.cells #[.pointer (some ⟨u2.heap.size, 0, none⟩), .string a1, .int .i64 ((n2 : Int) + 1), .int .i64 1, .int .i64 ((n2 : Int) + 1), .int .i64 a3] 33)) := below_alloc hB _
      have hUX : Below u2.heap.size u2 ((v5).alloc (.cells #[.pointer (some ⟨u2.heap.size, 0, none⟩), .string a1, .int .i64 ((n2 : Int) + 1), .int .i64 1, .int .i64 ((n2 : Int) + 1), .int .i64 a3] 33)) := below_alloc hU _
      go_wp2_with fail
      refine (lineE_any _ _ _ a1 a3 n2 b off len0 c t2 _ (HX_lb.cell 0) (HX_lb.cell 1) (HX_lb.cell 4) (HX_lb.cell 5) (HX_src.cell 1) hn2 hl (cell_later hUX hcell2) hsz2).mono ?_
      rintro e v6 ⟨rfl, hb⟩
      clear hs1 hs2
      have H_src' := HX_src.below hb HX_src.lt
      have H_loc' := HX_loc.below hb HX_loc.lt
      have H_le' := HX_le.below hb HX_le.lt
      have H_got' := HX_got.below hb HX_got.lt
      have H_probe' := HX_probe.below hb HX_probe.lt
      have H_lb' := HX_lb.below hb HX_lb.lt
      clear HX_src HX_loc HX_le HX_got HX_probe HX_lb
      clear H_src l_src c_src_0 c_src_1 H_loc l_loc c_loc_0 c_loc_1 c_loc_2 c_loc_3 c_loc_4 c_loc_5 H_le l_le c_le_0 c_le_1 c_le_2 c_le_3 c_le_4 c_le_5 H_got l_got c_got_0 c_got_1 c_got_2 c_got_3 c_got_4 c_got_5 H_probe l_probe c_probe_0 c_probe_1 c_probe_2 c_probe_3 c_probe_4 c_probe_5
      have H_src := H_src'
      clear H_src'
      have l_src := H_src.lt
      have c_src_0 : v6.cell? ⟨u2.heap.size, 0, none⟩ = some (.string ByteArray.empty) := H_src.cell 0
      have c_src_1 : v6.cell? ⟨u2.heap.size, 1, none⟩ = some (.slice (some ⟨b, off, none⟩) len0 c) := H_src.cell 1
      have H_loc := H_loc'
      clear H_loc'
      have l_loc := H_loc.lt
      have c_loc_0 : v6.cell? ⟨v1.heap.size, 0, none⟩ = some (.pointer (some ⟨u2.heap.size, 0, none⟩)) := H_loc.cell 0
      have c_loc_1 : v6.cell? ⟨v1.heap.size, 1, none⟩ = some (.string a1) := H_loc.cell 1
      have c_loc_2 : v6.cell? ⟨v1.heap.size, 2, none⟩ = some (.int .i64 ((n2 : Int) + 1)) := H_loc.cell 2
      have c_loc_3 : v6.cell? ⟨v1.heap.size, 3, none⟩ = some (.int .i64 a3) := H_loc.cell 3
      have c_loc_4 : v6.cell? ⟨v1.heap.size, 4, none⟩ = some (.int .i64 ((n1 : Int) + 1)) := H_loc.cell 4
      have c_loc_5 : v6.cell? ⟨v1.heap.size, 5, none⟩ = some (.int .i64 a5) := H_loc.cell 5
      have H_le := H_le'
      clear H_le'
      have l_le := H_le.lt
      have c_le_0 : v6.cell? ⟨v2.heap.size, 0, none⟩ = some (.pointer (some ⟨u2.heap.size, 0, none⟩)) := H_le.cell 0
      have c_le_1 : v6.cell? ⟨v2.heap.size, 1, none⟩ = some (.string a1) := H_le.cell 1
      have c_le_2 : v6.cell? ⟨v2.heap.size, 2, none⟩ = some (.int .i64 ((n1 : Int) + 1)) := H_le.cell 2
      have c_le_3 : v6.cell? ⟨v2.heap.size, 3, none⟩ = some (.int .i64 a5) := H_le.cell 3
      have c_le_4 : v6.cell? ⟨v2.heap.size, 4, none⟩ = some (.int .i64 ((n1 : Int) + 1)) := H_le.cell 4
      have c_le_5 : v6.cell? ⟨v2.heap.size, 5, none⟩ = some (.int .i64 (t1.size : Int)) := H_le.cell 5
      have H_got := H_got'
      clear H_got'
      have l_got := H_got.lt
      have c_got_0 : v6.cell? ⟨v3.heap.size, 0, none⟩ = some (.pointer (some ⟨u2.heap.size, 0, none⟩)) := H_got.cell 0
      have c_got_1 : v6.cell? ⟨v3.heap.size, 1, none⟩ = some (.string a1) := H_got.cell 1
      have c_got_2 : v6.cell? ⟨v3.heap.size, 2, none⟩ = some (.int .i64 ((n1 : Int) + 1)) := H_got.cell 2
      have c_got_3 : v6.cell? ⟨v3.heap.size, 3, none⟩ = some (.int .i64 1) := H_got.cell 3
      have c_got_4 : v6.cell? ⟨v3.heap.size, 4, none⟩ = some (.int .i64 ((n1 : Int) + 1)) := H_got.cell 4
      have c_got_5 : v6.cell? ⟨v3.heap.size, 5, none⟩ = some (.int .i64 a5) := H_got.cell 5
      have H_probe := H_probe'
      clear H_probe'
      have l_probe := H_probe.lt
      have c_probe_0 : v6.cell? ⟨v3.heap.size + 1, 0, none⟩ = some (.pointer (some ⟨u2.heap.size, 0, none⟩)) := H_probe.cell 0
      have c_probe_1 : v6.cell? ⟨v3.heap.size + 1, 1, none⟩ = some (.string a1) := H_probe.cell 1
      have c_probe_2 : v6.cell? ⟨v3.heap.size + 1, 2, none⟩ = some (.int .i64 ((n1 : Int) + 1)) := H_probe.cell 2
      have c_probe_3 : v6.cell? ⟨v3.heap.size + 1, 3, none⟩ = some (.int .i64 a5) := H_probe.cell 3
      have c_probe_4 : v6.cell? ⟨v3.heap.size + 1, 4, none⟩ = some (.int .i64 0) := H_probe.cell 4
      have c_probe_5 : v6.cell? ⟨v3.heap.size + 1, 5, none⟩ = some (.int .i64 0) := H_probe.cell 5
      have H_lb := H_lb'
      clear H_lb'
      have l_lb := H_lb.lt
      have c_lb_0 : v6.cell? ⟨v5.heap.size, 0, none⟩ = some (.pointer (some ⟨u2.heap.size, 0, none⟩)) := H_lb.cell 0
      have c_lb_1 : v6.cell? ⟨v5.heap.size, 1, none⟩ = some (.string a1) := H_lb.cell 1
      have c_lb_2 : v6.cell? ⟨v5.heap.size, 2, none⟩ = some (.int .i64 ((n2 : Int) + 1)) := H_lb.cell 2
      have c_lb_3 : v6.cell? ⟨v5.heap.size, 3, none⟩ = some (.int .i64 1) := H_lb.cell 3
      have c_lb_4 : v6.cell? ⟨v5.heap.size, 4, none⟩ = some (.int .i64 ((n2 : Int) + 1)) := H_lb.cell 4
      have c_lb_5 : v6.cell? ⟨v5.heap.size, 5, none⟩ = some (.int .i64 a3) := H_lb.cell 5
      have hB' := below_trans hBX hb
      have hU' := below_trans hUX hb
      clear hB hU hBX hUX hb
      have hB := hB'
      have hU := hU'
      clear hB' hU'
      clear hlb
      have hlb : b < v6.heap.size := lt_of_cell (cell_later hU hcell1)
      have hs1 : v6.cell? ⟨b, off + n1, none⟩ = some (.string t1) := cell_later hU hcell1
      have hs2 : v6.cell? ⟨b, off + n2, none⟩ = some (.string t2) := cell_later hU hcell2
      have HX_src := (H_src.alloc (.cells #[.pointer (some ⟨u2.heap.size, 0, none⟩), .string a1, .int .i64 ((n2 : Int) + 1), .int .i64 a3, .int .i64 ((n2 : Int) + 1), .int .i64 (t2.size : Int)] 33)).alloc (.cells #[.pointer (some ⟨u2.heap.size, 0, none⟩), .string a1, .int .i64 0, .int .i64 0, .int .i64 ((n2 : Int) + 1), .int .i64 a3] 33)
      have HX_loc := (H_loc.alloc (.cells #[.pointer (some ⟨u2.heap.size, 0, none⟩), .string a1, .int .i64 ((n2 : Int) + 1), .int .i64 a3, .int .i64 ((n2 : Int) + 1), .int .i64 (t2.size : Int)] 33)).alloc (.cells #[.pointer (some ⟨u2.heap.size, 0, none⟩), .string a1, .int .i64 0, .int .i64 0, .int .i64 ((n2 : Int) + 1), .int .i64 a3] 33)
      have HX_le := (H_le.alloc (.cells #[.pointer (some ⟨u2.heap.size, 0, none⟩), .string a1, .int .i64 ((n2 : Int) + 1), .int .i64 a3, .int .i64 ((n2 : Int) + 1), .int .i64 (t2.size : Int)] 33)).alloc (.cells #[.pointer (some ⟨u2.heap.size, 0, none⟩), .string a1, .int .i64 0, .int .i64 0, .int .i64 ((n2 : Int) + 1), .int .i64 a3] 33)
      have HX_got := (H_got.alloc (.cells #[.pointer (some ⟨u2.heap.size, 0, none⟩), .string a1, .int .i64 ((n2 : Int) + 1), .int .i64 a3, .int .i64 ((n2 : Int) + 1), .int .i64 (t2.size : Int)] 33)).alloc (.cells #[.pointer (some ⟨u2.heap.size, 0, none⟩), .string a1, .int .i64 0, .int .i64 0, .int .i64 ((n2 : Int) + 1), .int .i64 a3] 33)
      have HX_probe := (H_probe.alloc (.cells #[.pointer (some ⟨u2.heap.size, 0, none⟩), .string a1, .int .i64 ((n2 : Int) + 1), .int .i64 a3, .int .i64 ((n2 : Int) + 1), .int .i64 (t2.size : Int)] 33)).alloc (.cells #[.pointer (some ⟨u2.heap.size, 0, none⟩), .string a1, .int .i64 0, .int .i64 0, .int .i64 ((n2 : Int) + 1), .int .i64 a3] 33)
      have HX_lb := (H_lb.alloc (.cells #[.pointer (some ⟨u2.heap.size, 0, none⟩), .string a1, .int .i64 ((n2 : Int) + 1), .int .i64 a3, .int .i64 ((n2 : Int) + 1), .int .i64 (t2.size : Int)] 33)).alloc (.cells #[.pointer (some ⟨u2.heap.size, 0, none⟩), .string a1, .int .i64 0, .int .i64 0, .int .i64 ((n2 : Int) + 1), .int .i64 a3] 33)
      have HX_got2 := (Blk.new v6 33 #[.pointer (some ⟨u2.heap.size, 0, none⟩), .string a1, .int .i64 ((n2 : Int) + 1), .int .i64 a3, .int .i64 ((n2 : Int) + 1), .int .i64 (t2.size : Int)]).alloc (.cells #[.pointer (some ⟨u2.heap.size, 0, none⟩), .string a1, .int .i64 0, .int .i64 0, .int .i64 ((n2 : Int) + 1), .int .i64 a3] 33)
      have HX_probe2 := Blk.new1 v6 (.cells #[.pointer (some ⟨u2.heap.size, 0, none⟩), .string a1, .int .i64 ((n2 : Int) + 1), .int .i64 a3, .int .i64 ((n2 : Int) + 1), .int .i64 (t2.size : Int)] 33) 33 #[.pointer (some ⟨u2.heap.size, 0, none⟩), .string a1, .int .i64 0, .int .i64 0, .int .i64 ((n2 : Int) + 1), .int .i64 a3]
      have hBX : Below w.heap.size w (((v6).alloc (.cells #[.pointer (some ⟨u2.heap.size, 0, none⟩), .string a1, .int .i64 ((n2 : Int) + 1), .int .i64 a3, .int .i64 ((n2 : Int) + 1), .int .i64 (t2.size : Int)] 33)).alloc (.cells #[.pointer (some ⟨u2.heap.size, 0, none⟩), .string a1, .int .i64 0, .int .i64 0, .int .i64 ((n2 : Int) + 1), .int .i64 a3] 33)) := below_alloc (below_alloc hB _) _
      have hUX : Below u2.heap.size u2 (((v6).alloc (.cells #[.pointer (some ⟨u2.heap.size, 0, none⟩), .string a1, .int .i64 ((n2 : Int) + 1), .int .i64 a3, .int .i64 ((n2 : Int) + 1), .int .i64 (t2.size : Int)] 33)).alloc (.cells #[.pointer (some ⟨u2.heap.size, 0, none⟩), .string a1, .int .i64 0, .int .i64 0, .int .i64 ((n2 : Int) + 1), .int .i64 a3] 33)) := below_alloc (below_alloc hU _) _
      go_wp2_with fail
      have hq7 := HX_got2.lt
      have q7_0 : (((v6).alloc (.cells #[.pointer (some ⟨u2.heap.size, 0, none⟩), .string a1, .int .i64 ((n2 : Int) + 1), .int .i64 a3, .int .i64 ((n2 : Int) + 1), .int .i64 (t2.size : Int)] 33)).alloc (.cells #[.pointer (some ⟨u2.heap.size, 0, none⟩), .string a1, .int .i64 0, .int .i64 0, .int .i64 ((n2 : Int) + 1), .int .i64 a3] 33)).cell? ⟨v6.heap.size, 0, none⟩ = some (.pointer (some ⟨u2.heap.size, 0, none⟩)) := HX_got2.cell 0
      have q7_1 : (((v6).alloc (.cells #[.pointer (some ⟨u2.heap.size, 0, none⟩), .string a1, .int .i64 ((n2 : Int) + 1), .int .i64 a3, .int .i64 ((n2 : Int) + 1), .int .i64 (t2.size : Int)] 33)).alloc (.cells #[.pointer (some ⟨u2.heap.size, 0, none⟩), .string a1, .int .i64 0, .int .i64 0, .int .i64 ((n2 : Int) + 1), .int .i64 a3] 33)).cell? ⟨v6.heap.size, 1, none⟩ = some (.string a1) := HX_got2.cell 1
      have q7_2 : (((v6).alloc (.cells #[.pointer (some ⟨u2.heap.size, 0, none⟩), .string a1, .int .i64 ((n2 : Int) + 1), .int .i64 a3, .int .i64 ((n2 : Int) + 1), .int .i64 (t2.size : Int)] 33)).alloc (.cells #[.pointer (some ⟨u2.heap.size, 0, none⟩), .string a1, .int .i64 0, .int .i64 0, .int .i64 ((n2 : Int) + 1), .int .i64 a3] 33)).cell? ⟨v6.heap.size, 2, none⟩ = some (.int .i64 ((n2 : Int) + 1)) := HX_got2.cell 2
      have q7_3 : (((v6).alloc (.cells #[.pointer (some ⟨u2.heap.size, 0, none⟩), .string a1, .int .i64 ((n2 : Int) + 1), .int .i64 a3, .int .i64 ((n2 : Int) + 1), .int .i64 (t2.size : Int)] 33)).alloc (.cells #[.pointer (some ⟨u2.heap.size, 0, none⟩), .string a1, .int .i64 0, .int .i64 0, .int .i64 ((n2 : Int) + 1), .int .i64 a3] 33)).cell? ⟨v6.heap.size, 3, none⟩ = some (.int .i64 a3) := HX_got2.cell 3
      have q7_4 : (((v6).alloc (.cells #[.pointer (some ⟨u2.heap.size, 0, none⟩), .string a1, .int .i64 ((n2 : Int) + 1), .int .i64 a3, .int .i64 ((n2 : Int) + 1), .int .i64 (t2.size : Int)] 33)).alloc (.cells #[.pointer (some ⟨u2.heap.size, 0, none⟩), .string a1, .int .i64 0, .int .i64 0, .int .i64 ((n2 : Int) + 1), .int .i64 a3] 33)).cell? ⟨v6.heap.size, 4, none⟩ = some (.int .i64 ((n2 : Int) + 1)) := HX_got2.cell 4
      have q7_5 : (((v6).alloc (.cells #[.pointer (some ⟨u2.heap.size, 0, none⟩), .string a1, .int .i64 ((n2 : Int) + 1), .int .i64 a3, .int .i64 ((n2 : Int) + 1), .int .i64 (t2.size : Int)] 33)).alloc (.cells #[.pointer (some ⟨u2.heap.size, 0, none⟩), .string a1, .int .i64 0, .int .i64 0, .int .i64 ((n2 : Int) + 1), .int .i64 a3] 33)).cell? ⟨v6.heap.size, 5, none⟩ = some (.int .i64 (t2.size : Int)) := HX_got2.cell 5
      have HY_src := HX_src.drew
      clear HX_src
      have HX_src := HY_src
      clear HY_src
      have HY_loc := HX_loc.drew
      clear HX_loc
      have HX_loc := HY_loc
      clear HY_loc
      have HY_le := HX_le.drew
      clear HX_le
      have HX_le := HY_le
      clear HY_le
      have HY_got := HX_got.drew
      clear HX_got
      have HX_got := HY_got
      clear HY_got
      have HY_probe := HX_probe.drew
      clear HX_probe
      have HX_probe := HY_probe
      clear HY_probe
      have HY_lb := HX_lb.drew
      clear HX_lb
      have HX_lb := HY_lb
      clear HY_lb
      have HY_got2 := HX_got2.drew
      clear HX_got2
      have HX_got2 := HY_got2
      clear HY_got2
      have HY_probe2 := HX_probe2.drew
      clear HX_probe2
      have HX_probe2 := HY_probe2
      clear HY_probe2
      have hBY := Below.drew hBX
      have hUY := Below.drew hUX
      clear hBX hUX
      have hBX := hBY
      have hUX := hUY
      clear hBY hUY
      go_region_held3 (fun w' => w'.cell? ⟨v6.heap.size, 0, none⟩ = some (.pointer (some ⟨u2.heap.size, 0, none⟩)) ∧ w'.cell? ⟨v6.heap.size, 1, none⟩ = some (.string a1) ∧ w'.cell? ⟨v6.heap.size, 2, none⟩ = some (.int .i64 ((n2 : Int) + 1)) ∧ w'.cell? ⟨v6.heap.size, 3, none⟩ = some (.int .i64 a3) ∧ w'.cell? ⟨v6.heap.size, 4, none⟩ = some (.int .i64 ((n2 : Int) + 1)) ∧ w'.cell? ⟨v6.heap.size, 5, none⟩ = some (.int .i64 (t2.size : Int))) (first | go_keep | (go_split_ands; refine ⟨cell_later hb (by assumption), cell_later hb (by assumption), cell_later hb (by assumption), cell_later hb (by assumption), cell_later hb (by assumption), cell_later hb (by assumption)⟩)) (first | (go_at_call 17; refine (lineE_any _ _ _ a1 a3 n2 b off len0 c t2 _ (HX_probe2.cell 0) (HX_probe2.cell 1) (HX_probe2.cell 4) (HX_probe2.cell 5) (HX_src.cell 1) hn2 hl (cell_later hUX hcell2) hsz2).mono ?_; rintro e v7 ⟨rfl, hb⟩; obtain ⟨hc7, hf7⟩ := bcell hb))
      clear hc7 hf7 hq7 q7_0 q7_1 q7_2 q7_3 q7_4 q7_5
      clear hs1 hs2
      have H_src' := HX_src.below hb HX_src.lt
      have H_loc' := HX_loc.below hb HX_loc.lt
      have H_le' := HX_le.below hb HX_le.lt
      have H_got' := HX_got.below hb HX_got.lt
      have H_probe' := HX_probe.below hb HX_probe.lt
      have H_lb' := HX_lb.below hb HX_lb.lt
      have H_got2' := HX_got2.below hb HX_got2.lt
      have H_probe2' := HX_probe2.below hb HX_probe2.lt
      clear HX_src HX_loc HX_le HX_got HX_probe HX_lb HX_got2 HX_probe2
      clear H_src l_src c_src_0 c_src_1 H_loc l_loc c_loc_0 c_loc_1 c_loc_2 c_loc_3 c_loc_4 c_loc_5 H_le l_le c_le_0 c_le_1 c_le_2 c_le_3 c_le_4 c_le_5 H_got l_got c_got_0 c_got_1 c_got_2 c_got_3 c_got_4 c_got_5 H_probe l_probe c_probe_0 c_probe_1 c_probe_2 c_probe_3 c_probe_4 c_probe_5 H_lb l_lb c_lb_0 c_lb_1 c_lb_2 c_lb_3 c_lb_4 c_lb_5
      have H_src := H_src'
      clear H_src'
      have l_src := H_src.lt
      have c_src_0 : v7.cell? ⟨u2.heap.size, 0, none⟩ = some (.string ByteArray.empty) := H_src.cell 0
      have c_src_1 : v7.cell? ⟨u2.heap.size, 1, none⟩ = some (.slice (some ⟨b, off, none⟩) len0 c) := H_src.cell 1
      have H_loc := H_loc'
      clear H_loc'
      have l_loc := H_loc.lt
      have c_loc_0 : v7.cell? ⟨v1.heap.size, 0, none⟩ = some (.pointer (some ⟨u2.heap.size, 0, none⟩)) := H_loc.cell 0
      have c_loc_1 : v7.cell? ⟨v1.heap.size, 1, none⟩ = some (.string a1) := H_loc.cell 1
      have c_loc_2 : v7.cell? ⟨v1.heap.size, 2, none⟩ = some (.int .i64 ((n2 : Int) + 1)) := H_loc.cell 2
      have c_loc_3 : v7.cell? ⟨v1.heap.size, 3, none⟩ = some (.int .i64 a3) := H_loc.cell 3
      have c_loc_4 : v7.cell? ⟨v1.heap.size, 4, none⟩ = some (.int .i64 ((n1 : Int) + 1)) := H_loc.cell 4
      have c_loc_5 : v7.cell? ⟨v1.heap.size, 5, none⟩ = some (.int .i64 a5) := H_loc.cell 5
      have H_le := H_le'
      clear H_le'
      have l_le := H_le.lt
      have c_le_0 : v7.cell? ⟨v2.heap.size, 0, none⟩ = some (.pointer (some ⟨u2.heap.size, 0, none⟩)) := H_le.cell 0
      have c_le_1 : v7.cell? ⟨v2.heap.size, 1, none⟩ = some (.string a1) := H_le.cell 1
      have c_le_2 : v7.cell? ⟨v2.heap.size, 2, none⟩ = some (.int .i64 ((n1 : Int) + 1)) := H_le.cell 2
      have c_le_3 : v7.cell? ⟨v2.heap.size, 3, none⟩ = some (.int .i64 a5) := H_le.cell 3
      have c_le_4 : v7.cell? ⟨v2.heap.size, 4, none⟩ = some (.int .i64 ((n1 : Int) + 1)) := H_le.cell 4
      have c_le_5 : v7.cell? ⟨v2.heap.size, 5, none⟩ = some (.int .i64 (t1.size : Int)) := H_le.cell 5
      have H_got := H_got'
      clear H_got'
      have l_got := H_got.lt
      have c_got_0 : v7.cell? ⟨v3.heap.size, 0, none⟩ = some (.pointer (some ⟨u2.heap.size, 0, none⟩)) := H_got.cell 0
      have c_got_1 : v7.cell? ⟨v3.heap.size, 1, none⟩ = some (.string a1) := H_got.cell 1
      have c_got_2 : v7.cell? ⟨v3.heap.size, 2, none⟩ = some (.int .i64 ((n1 : Int) + 1)) := H_got.cell 2
      have c_got_3 : v7.cell? ⟨v3.heap.size, 3, none⟩ = some (.int .i64 1) := H_got.cell 3
      have c_got_4 : v7.cell? ⟨v3.heap.size, 4, none⟩ = some (.int .i64 ((n1 : Int) + 1)) := H_got.cell 4
      have c_got_5 : v7.cell? ⟨v3.heap.size, 5, none⟩ = some (.int .i64 a5) := H_got.cell 5
      have H_probe := H_probe'
      clear H_probe'
      have l_probe := H_probe.lt
      have c_probe_0 : v7.cell? ⟨v3.heap.size + 1, 0, none⟩ = some (.pointer (some ⟨u2.heap.size, 0, none⟩)) := H_probe.cell 0
      have c_probe_1 : v7.cell? ⟨v3.heap.size + 1, 1, none⟩ = some (.string a1) := H_probe.cell 1
      have c_probe_2 : v7.cell? ⟨v3.heap.size + 1, 2, none⟩ = some (.int .i64 ((n1 : Int) + 1)) := H_probe.cell 2
      have c_probe_3 : v7.cell? ⟨v3.heap.size + 1, 3, none⟩ = some (.int .i64 a5) := H_probe.cell 3
      have c_probe_4 : v7.cell? ⟨v3.heap.size + 1, 4, none⟩ = some (.int .i64 0) := H_probe.cell 4
      have c_probe_5 : v7.cell? ⟨v3.heap.size + 1, 5, none⟩ = some (.int .i64 0) := H_probe.cell 5
      have H_lb := H_lb'
      clear H_lb'
      have l_lb := H_lb.lt
      have c_lb_0 : v7.cell? ⟨v5.heap.size, 0, none⟩ = some (.pointer (some ⟨u2.heap.size, 0, none⟩)) := H_lb.cell 0
      have c_lb_1 : v7.cell? ⟨v5.heap.size, 1, none⟩ = some (.string a1) := H_lb.cell 1
      have c_lb_2 : v7.cell? ⟨v5.heap.size, 2, none⟩ = some (.int .i64 ((n2 : Int) + 1)) := H_lb.cell 2
      have c_lb_3 : v7.cell? ⟨v5.heap.size, 3, none⟩ = some (.int .i64 1) := H_lb.cell 3
      have c_lb_4 : v7.cell? ⟨v5.heap.size, 4, none⟩ = some (.int .i64 ((n2 : Int) + 1)) := H_lb.cell 4
      have c_lb_5 : v7.cell? ⟨v5.heap.size, 5, none⟩ = some (.int .i64 a3) := H_lb.cell 5
      have H_got2 := H_got2'
      clear H_got2'
      have l_got2 := H_got2.lt
      have c_got2_0 : v7.cell? ⟨v6.heap.size, 0, none⟩ = some (.pointer (some ⟨u2.heap.size, 0, none⟩)) := H_got2.cell 0
      have c_got2_1 : v7.cell? ⟨v6.heap.size, 1, none⟩ = some (.string a1) := H_got2.cell 1
      have c_got2_2 : v7.cell? ⟨v6.heap.size, 2, none⟩ = some (.int .i64 ((n2 : Int) + 1)) := H_got2.cell 2
      have c_got2_3 : v7.cell? ⟨v6.heap.size, 3, none⟩ = some (.int .i64 a3) := H_got2.cell 3
      have c_got2_4 : v7.cell? ⟨v6.heap.size, 4, none⟩ = some (.int .i64 ((n2 : Int) + 1)) := H_got2.cell 4
      have c_got2_5 : v7.cell? ⟨v6.heap.size, 5, none⟩ = some (.int .i64 (t2.size : Int)) := H_got2.cell 5
      have H_probe2 := H_probe2'
      clear H_probe2'
      have l_probe2 := H_probe2.lt
      have c_probe2_0 : v7.cell? ⟨v6.heap.size + 1, 0, none⟩ = some (.pointer (some ⟨u2.heap.size, 0, none⟩)) := H_probe2.cell 0
      have c_probe2_1 : v7.cell? ⟨v6.heap.size + 1, 1, none⟩ = some (.string a1) := H_probe2.cell 1
      have c_probe2_2 : v7.cell? ⟨v6.heap.size + 1, 2, none⟩ = some (.int .i64 0) := H_probe2.cell 2
      have c_probe2_3 : v7.cell? ⟨v6.heap.size + 1, 3, none⟩ = some (.int .i64 0) := H_probe2.cell 3
      have c_probe2_4 : v7.cell? ⟨v6.heap.size + 1, 4, none⟩ = some (.int .i64 ((n2 : Int) + 1)) := H_probe2.cell 4
      have c_probe2_5 : v7.cell? ⟨v6.heap.size + 1, 5, none⟩ = some (.int .i64 a3) := H_probe2.cell 5
      have hB' := below_trans hBX hb
      have hU' := below_trans hUX hb
      clear hB hU hBX hUX hb
      have hB := hB'
      have hU := hU'
      clear hB' hU'
      clear hlb
      have hlb : b < v7.heap.size := lt_of_cell (cell_later hU hcell1)
      have hs1 : v7.cell? ⟨b, off + n1, none⟩ = some (.string t1) := cell_later hU hcell1
      have hs2 : v7.cell? ⟨b, off + n2, none⟩ = some (.string t2) := cell_later hU hcell2
      go_wp2_with fail
      go_quiet (fail)
      go_wp2_with fail
      go_ret
      exact ⟨rfl, by first | exact hB | exact below_alloc hB _ | exact below_alloc (below_alloc hB _) _ | exact below_drewN hB _ | exact below_alloc (below_drewN hB _) _⟩
    · obtain ⟨n1, rfl⟩ : ∃ n : Nat, a4 = (n : Int) + 1 := ⟨(a4 - 1).toNat, by omega⟩
      have hn1 : n1 < len0 := by omega
      have hn1' : (n1 : Int) < (len0 : Int) := by omega
      have hn10 : (0 : Int) ≤ (n1 : Int) := by omega
      obtain ⟨b, off, t1, rfl, hblt, hs, hsz1, hcell1⟩ := hst.at_ hn1
      clear hs
      have hdA1 : decide ((1 : Int) ≤ ((n1 : Int) + 1)) = true := decide_eq_true (by omega)
      have hdA2 : decide (((n1 : Int) + 1) ≤ (len0 : Int)) = true := decide_eq_true (by omega)
      have hdD1 : decide ((1 : Int) ≤ a2) = false := decide_eq_false (by omega)
      have HX_src := Blk.new u2 29 #[.string ByteArray.empty, .slice (some ⟨b, off, none⟩) len0 c]
      have hBX : Below w.heap.size w ((u2).alloc (.cells #[.string ByteArray.empty, .slice (some ⟨b, off, none⟩) len0 c] 29)) := below_alloc hB _
      have hUX : Below u2.heap.size u2 ((u2).alloc (.cells #[.string ByteArray.empty, .slice (some ⟨b, off, none⟩) len0 c] 29)) := below_alloc hU _
      go_wp2_with fail
      refine (makeLoc_any _ _ _ _ _ _ _).mono ?_
      rintro e v1 ⟨rfl, hb⟩
      have H_src' := HX_src.below hb HX_src.lt
      clear HX_src
      have H_src := H_src'
      clear H_src'
      have l_src := H_src.lt
      have c_src_0 : v1.cell? ⟨u2.heap.size, 0, none⟩ = some (.string ByteArray.empty) := H_src.cell 0
      have c_src_1 : v1.cell? ⟨u2.heap.size, 1, none⟩ = some (.slice (some ⟨b, off, none⟩) len0 c) := H_src.cell 1
      have hB' := below_trans hBX hb
      have hU' := below_trans hUX hb
      clear hB hU hBX hUX hb
      have hB := hB'
      have hU := hU'
      clear hB' hU'
      have hlb : b < v1.heap.size := lt_of_cell (cell_later hU hcell1)
      have hs1 : v1.cell? ⟨b, off + n1, none⟩ = some (.string t1) := cell_later hU hcell1
      have HX_src := H_src.alloc (.cells #[.pointer (some ⟨u2.heap.size, 0, none⟩), .string a1, .int .i64 a2, .int .i64 a3, .int .i64 ((n1 : Int) + 1), .int .i64 a5] 33)
      have HX_loc := Blk.new v1 33 #[.pointer (some ⟨u2.heap.size, 0, none⟩), .string a1, .int .i64 a2, .int .i64 a3, .int .i64 ((n1 : Int) + 1), .int .i64 a5]
      have hBX : Below w.heap.size w ((v1).alloc (.cells #[.pointer (some ⟨u2.heap.size, 0, none⟩), .string a1, .int .i64 a2, .int .i64 a3, .int .i64 ((n1 : Int) + 1), .int .i64 a5] 33)) := below_alloc hB _
      have hUX : Below u2.heap.size u2 ((v1).alloc (.cells #[.pointer (some ⟨u2.heap.size, 0, none⟩), .string a1, .int .i64 a2, .int .i64 a3, .int .i64 ((n1 : Int) + 1), .int .i64 a5] 33)) := below_alloc hU _
      go_wp2_with fail
      refine (lineE_any _ _ _ a1 a5 n1 b off len0 c t1 _ (HX_loc.cell 0) (HX_loc.cell 1) (HX_loc.cell 4) (HX_loc.cell 5) (HX_src.cell 1) hn1 hl (cell_later hUX hcell1) hsz1).mono ?_
      rintro e v2 ⟨rfl, hb⟩
      clear hs1
      have H_src' := HX_src.below hb HX_src.lt
      have H_loc' := HX_loc.below hb HX_loc.lt
      clear HX_src HX_loc
      clear H_src l_src c_src_0 c_src_1
      have H_src := H_src'
      clear H_src'
      have l_src := H_src.lt
      have c_src_0 : v2.cell? ⟨u2.heap.size, 0, none⟩ = some (.string ByteArray.empty) := H_src.cell 0
      have c_src_1 : v2.cell? ⟨u2.heap.size, 1, none⟩ = some (.slice (some ⟨b, off, none⟩) len0 c) := H_src.cell 1
      have H_loc := H_loc'
      clear H_loc'
      have l_loc := H_loc.lt
      have c_loc_0 : v2.cell? ⟨v1.heap.size, 0, none⟩ = some (.pointer (some ⟨u2.heap.size, 0, none⟩)) := H_loc.cell 0
      have c_loc_1 : v2.cell? ⟨v1.heap.size, 1, none⟩ = some (.string a1) := H_loc.cell 1
      have c_loc_2 : v2.cell? ⟨v1.heap.size, 2, none⟩ = some (.int .i64 a2) := H_loc.cell 2
      have c_loc_3 : v2.cell? ⟨v1.heap.size, 3, none⟩ = some (.int .i64 a3) := H_loc.cell 3
      have c_loc_4 : v2.cell? ⟨v1.heap.size, 4, none⟩ = some (.int .i64 ((n1 : Int) + 1)) := H_loc.cell 4
      have c_loc_5 : v2.cell? ⟨v1.heap.size, 5, none⟩ = some (.int .i64 a5) := H_loc.cell 5
      have hB' := below_trans hBX hb
      have hU' := below_trans hUX hb
      clear hB hU hBX hUX hb
      have hB := hB'
      have hU := hU'
      clear hB' hU'
      clear hlb
      have hlb : b < v2.heap.size := lt_of_cell (cell_later hU hcell1)
      have hs1 : v2.cell? ⟨b, off + n1, none⟩ = some (.string t1) := cell_later hU hcell1
      have HX_src := H_src.alloc (.cells #[.pointer (some ⟨u2.heap.size, 0, none⟩), .string a1, .int .i64 ((n1 : Int) + 1), .int .i64 a5, .int .i64 ((n1 : Int) + 1), .int .i64 (t1.size : Int)] 33)
      have HX_loc := H_loc.alloc (.cells #[.pointer (some ⟨u2.heap.size, 0, none⟩), .string a1, .int .i64 ((n1 : Int) + 1), .int .i64 a5, .int .i64 ((n1 : Int) + 1), .int .i64 (t1.size : Int)] 33)
      have HX_le := Blk.new v2 33 #[.pointer (some ⟨u2.heap.size, 0, none⟩), .string a1, .int .i64 ((n1 : Int) + 1), .int .i64 a5, .int .i64 ((n1 : Int) + 1), .int .i64 (t1.size : Int)]
      have hBX : Below w.heap.size w ((v2).alloc (.cells #[.pointer (some ⟨u2.heap.size, 0, none⟩), .string a1, .int .i64 ((n1 : Int) + 1), .int .i64 a5, .int .i64 ((n1 : Int) + 1), .int .i64 (t1.size : Int)] 33)) := below_alloc hB _
      have hUX : Below u2.heap.size u2 ((v2).alloc (.cells #[.pointer (some ⟨u2.heap.size, 0, none⟩), .string a1, .int .i64 ((n1 : Int) + 1), .int .i64 a5, .int .i64 ((n1 : Int) + 1), .int .i64 (t1.size : Int)] 33)) := below_alloc hU _
      go_wp2_with fail
      refine (lineB_any _ _ _ _ _ _ _ (HX_le.cell 0) (HX_le.cell 1) (HX_le.cell 2) (HX_le.cell 3)).mono ?_
      rintro e v3 ⟨rfl, hb⟩
      clear hs1
      have H_src' := HX_src.below hb HX_src.lt
      have H_loc' := HX_loc.below hb HX_loc.lt
      have H_le' := HX_le.below hb HX_le.lt
      clear HX_src HX_loc HX_le
      clear H_src l_src c_src_0 c_src_1 H_loc l_loc c_loc_0 c_loc_1 c_loc_2 c_loc_3 c_loc_4 c_loc_5
      have H_src := H_src'
      clear H_src'
      have l_src := H_src.lt
      have c_src_0 : v3.cell? ⟨u2.heap.size, 0, none⟩ = some (.string ByteArray.empty) := H_src.cell 0
      have c_src_1 : v3.cell? ⟨u2.heap.size, 1, none⟩ = some (.slice (some ⟨b, off, none⟩) len0 c) := H_src.cell 1
      have H_loc := H_loc'
      clear H_loc'
      have l_loc := H_loc.lt
      have c_loc_0 : v3.cell? ⟨v1.heap.size, 0, none⟩ = some (.pointer (some ⟨u2.heap.size, 0, none⟩)) := H_loc.cell 0
      have c_loc_1 : v3.cell? ⟨v1.heap.size, 1, none⟩ = some (.string a1) := H_loc.cell 1
      have c_loc_2 : v3.cell? ⟨v1.heap.size, 2, none⟩ = some (.int .i64 a2) := H_loc.cell 2
      have c_loc_3 : v3.cell? ⟨v1.heap.size, 3, none⟩ = some (.int .i64 a3) := H_loc.cell 3
      have c_loc_4 : v3.cell? ⟨v1.heap.size, 4, none⟩ = some (.int .i64 ((n1 : Int) + 1)) := H_loc.cell 4
      have c_loc_5 : v3.cell? ⟨v1.heap.size, 5, none⟩ = some (.int .i64 a5) := H_loc.cell 5
      have H_le := H_le'
      clear H_le'
      have l_le := H_le.lt
      have c_le_0 : v3.cell? ⟨v2.heap.size, 0, none⟩ = some (.pointer (some ⟨u2.heap.size, 0, none⟩)) := H_le.cell 0
      have c_le_1 : v3.cell? ⟨v2.heap.size, 1, none⟩ = some (.string a1) := H_le.cell 1
      have c_le_2 : v3.cell? ⟨v2.heap.size, 2, none⟩ = some (.int .i64 ((n1 : Int) + 1)) := H_le.cell 2
      have c_le_3 : v3.cell? ⟨v2.heap.size, 3, none⟩ = some (.int .i64 a5) := H_le.cell 3
      have c_le_4 : v3.cell? ⟨v2.heap.size, 4, none⟩ = some (.int .i64 ((n1 : Int) + 1)) := H_le.cell 4
      have c_le_5 : v3.cell? ⟨v2.heap.size, 5, none⟩ = some (.int .i64 (t1.size : Int)) := H_le.cell 5
      have hB' := below_trans hBX hb
      have hU' := below_trans hUX hb
      clear hB hU hBX hUX hb
      have hB := hB'
      have hU := hU'
      clear hB' hU'
      clear hlb
      have hlb : b < v3.heap.size := lt_of_cell (cell_later hU hcell1)
      have hs1 : v3.cell? ⟨b, off + n1, none⟩ = some (.string t1) := cell_later hU hcell1
      have HX_src := (H_src.alloc (.cells #[.pointer (some ⟨u2.heap.size, 0, none⟩), .string a1, .int .i64 ((n1 : Int) + 1), .int .i64 1, .int .i64 ((n1 : Int) + 1), .int .i64 a5] 33)).alloc (.cells #[.pointer (some ⟨u2.heap.size, 0, none⟩), .string a1, .int .i64 ((n1 : Int) + 1), .int .i64 a5, .int .i64 0, .int .i64 0] 33)
      have HX_loc := (H_loc.alloc (.cells #[.pointer (some ⟨u2.heap.size, 0, none⟩), .string a1, .int .i64 ((n1 : Int) + 1), .int .i64 1, .int .i64 ((n1 : Int) + 1), .int .i64 a5] 33)).alloc (.cells #[.pointer (some ⟨u2.heap.size, 0, none⟩), .string a1, .int .i64 ((n1 : Int) + 1), .int .i64 a5, .int .i64 0, .int .i64 0] 33)
      have HX_le := (H_le.alloc (.cells #[.pointer (some ⟨u2.heap.size, 0, none⟩), .string a1, .int .i64 ((n1 : Int) + 1), .int .i64 1, .int .i64 ((n1 : Int) + 1), .int .i64 a5] 33)).alloc (.cells #[.pointer (some ⟨u2.heap.size, 0, none⟩), .string a1, .int .i64 ((n1 : Int) + 1), .int .i64 a5, .int .i64 0, .int .i64 0] 33)
      have HX_got := (Blk.new v3 33 #[.pointer (some ⟨u2.heap.size, 0, none⟩), .string a1, .int .i64 ((n1 : Int) + 1), .int .i64 1, .int .i64 ((n1 : Int) + 1), .int .i64 a5]).alloc (.cells #[.pointer (some ⟨u2.heap.size, 0, none⟩), .string a1, .int .i64 ((n1 : Int) + 1), .int .i64 a5, .int .i64 0, .int .i64 0] 33)
      have HX_probe := Blk.new1 v3 (.cells #[.pointer (some ⟨u2.heap.size, 0, none⟩), .string a1, .int .i64 ((n1 : Int) + 1), .int .i64 1, .int .i64 ((n1 : Int) + 1), .int .i64 a5] 33) 33 #[.pointer (some ⟨u2.heap.size, 0, none⟩), .string a1, .int .i64 ((n1 : Int) + 1), .int .i64 a5, .int .i64 0, .int .i64 0]
      have hBX : Below w.heap.size w (((v3).alloc (.cells #[.pointer (some ⟨u2.heap.size, 0, none⟩), .string a1, .int .i64 ((n1 : Int) + 1), .int .i64 1, .int .i64 ((n1 : Int) + 1), .int .i64 a5] 33)).alloc (.cells #[.pointer (some ⟨u2.heap.size, 0, none⟩), .string a1, .int .i64 ((n1 : Int) + 1), .int .i64 a5, .int .i64 0, .int .i64 0] 33)) := below_alloc (below_alloc hB _) _
      have hUX : Below u2.heap.size u2 (((v3).alloc (.cells #[.pointer (some ⟨u2.heap.size, 0, none⟩), .string a1, .int .i64 ((n1 : Int) + 1), .int .i64 1, .int .i64 ((n1 : Int) + 1), .int .i64 a5] 33)).alloc (.cells #[.pointer (some ⟨u2.heap.size, 0, none⟩), .string a1, .int .i64 ((n1 : Int) + 1), .int .i64 a5, .int .i64 0, .int .i64 0] 33)) := below_alloc (below_alloc hU _) _
      go_wp2_with fail
      have hq4 := HX_got.lt
      have q4_0 : (((v3).alloc (.cells #[.pointer (some ⟨u2.heap.size, 0, none⟩), .string a1, .int .i64 ((n1 : Int) + 1), .int .i64 1, .int .i64 ((n1 : Int) + 1), .int .i64 a5] 33)).alloc (.cells #[.pointer (some ⟨u2.heap.size, 0, none⟩), .string a1, .int .i64 ((n1 : Int) + 1), .int .i64 a5, .int .i64 0, .int .i64 0] 33)).cell? ⟨v3.heap.size, 0, none⟩ = some (.pointer (some ⟨u2.heap.size, 0, none⟩)) := HX_got.cell 0
      have q4_1 : (((v3).alloc (.cells #[.pointer (some ⟨u2.heap.size, 0, none⟩), .string a1, .int .i64 ((n1 : Int) + 1), .int .i64 1, .int .i64 ((n1 : Int) + 1), .int .i64 a5] 33)).alloc (.cells #[.pointer (some ⟨u2.heap.size, 0, none⟩), .string a1, .int .i64 ((n1 : Int) + 1), .int .i64 a5, .int .i64 0, .int .i64 0] 33)).cell? ⟨v3.heap.size, 1, none⟩ = some (.string a1) := HX_got.cell 1
      have q4_2 : (((v3).alloc (.cells #[.pointer (some ⟨u2.heap.size, 0, none⟩), .string a1, .int .i64 ((n1 : Int) + 1), .int .i64 1, .int .i64 ((n1 : Int) + 1), .int .i64 a5] 33)).alloc (.cells #[.pointer (some ⟨u2.heap.size, 0, none⟩), .string a1, .int .i64 ((n1 : Int) + 1), .int .i64 a5, .int .i64 0, .int .i64 0] 33)).cell? ⟨v3.heap.size, 2, none⟩ = some (.int .i64 ((n1 : Int) + 1)) := HX_got.cell 2
      have q4_3 : (((v3).alloc (.cells #[.pointer (some ⟨u2.heap.size, 0, none⟩), .string a1, .int .i64 ((n1 : Int) + 1), .int .i64 1, .int .i64 ((n1 : Int) + 1), .int .i64 a5] 33)).alloc (.cells #[.pointer (some ⟨u2.heap.size, 0, none⟩), .string a1, .int .i64 ((n1 : Int) + 1), .int .i64 a5, .int .i64 0, .int .i64 0] 33)).cell? ⟨v3.heap.size, 3, none⟩ = some (.int .i64 1) := HX_got.cell 3
      have q4_4 : (((v3).alloc (.cells #[.pointer (some ⟨u2.heap.size, 0, none⟩), .string a1, .int .i64 ((n1 : Int) + 1), .int .i64 1, .int .i64 ((n1 : Int) + 1), .int .i64 a5] 33)).alloc (.cells #[.pointer (some ⟨u2.heap.size, 0, none⟩), .string a1, .int .i64 ((n1 : Int) + 1), .int .i64 a5, .int .i64 0, .int .i64 0] 33)).cell? ⟨v3.heap.size, 4, none⟩ = some (.int .i64 ((n1 : Int) + 1)) := HX_got.cell 4
      have q4_5 : (((v3).alloc (.cells #[.pointer (some ⟨u2.heap.size, 0, none⟩), .string a1, .int .i64 ((n1 : Int) + 1), .int .i64 1, .int .i64 ((n1 : Int) + 1), .int .i64 a5] 33)).alloc (.cells #[.pointer (some ⟨u2.heap.size, 0, none⟩), .string a1, .int .i64 ((n1 : Int) + 1), .int .i64 a5, .int .i64 0, .int .i64 0] 33)).cell? ⟨v3.heap.size, 5, none⟩ = some (.int .i64 a5) := HX_got.cell 5
      have HY_src := HX_src.drew
      clear HX_src
      have HX_src := HY_src
      clear HY_src
      have HY_loc := HX_loc.drew
      clear HX_loc
      have HX_loc := HY_loc
      clear HY_loc
      have HY_le := HX_le.drew
      clear HX_le
      have HX_le := HY_le
      clear HY_le
      have HY_got := HX_got.drew
      clear HX_got
      have HX_got := HY_got
      clear HY_got
      have HY_probe := HX_probe.drew
      clear HX_probe
      have HX_probe := HY_probe
      clear HY_probe
      have hBY := Below.drew hBX
      have hUY := Below.drew hUX
      clear hBX hUX
      have hBX := hBY
      have hUX := hUY
      clear hBY hUY
      go_region_held3 (fun w' => w'.cell? ⟨v3.heap.size, 0, none⟩ = some (.pointer (some ⟨u2.heap.size, 0, none⟩)) ∧ w'.cell? ⟨v3.heap.size, 1, none⟩ = some (.string a1) ∧ w'.cell? ⟨v3.heap.size, 2, none⟩ = some (.int .i64 ((n1 : Int) + 1)) ∧ w'.cell? ⟨v3.heap.size, 3, none⟩ = some (.int .i64 1) ∧ w'.cell? ⟨v3.heap.size, 4, none⟩ = some (.int .i64 ((n1 : Int) + 1)) ∧ w'.cell? ⟨v3.heap.size, 5, none⟩ = some (.int .i64 a5)) (first | go_keep | (go_split_ands; refine ⟨cell_later hb (by assumption), cell_later hb (by assumption), cell_later hb (by assumption), cell_later hb (by assumption), cell_later hb (by assumption), cell_later hb (by assumption)⟩)) (first | (go_at_call 15; refine (lineB_any _ _ _ _ _ _ _ (HX_probe.cell 0) (HX_probe.cell 1) (HX_probe.cell 2) (HX_probe.cell 3)).mono ?_; rintro e v4 ⟨rfl, hb⟩; obtain ⟨hc4, hf4⟩ := bcell hb))
      clear hc4 hf4 hq4 q4_0 q4_1 q4_2 q4_3 q4_4 q4_5
      clear hs1
      have H_src' := HX_src.below hb HX_src.lt
      have H_loc' := HX_loc.below hb HX_loc.lt
      have H_le' := HX_le.below hb HX_le.lt
      have H_got' := HX_got.below hb HX_got.lt
      have H_probe' := HX_probe.below hb HX_probe.lt
      clear HX_src HX_loc HX_le HX_got HX_probe
      clear H_src l_src c_src_0 c_src_1 H_loc l_loc c_loc_0 c_loc_1 c_loc_2 c_loc_3 c_loc_4 c_loc_5 H_le l_le c_le_0 c_le_1 c_le_2 c_le_3 c_le_4 c_le_5
      have H_src := H_src'
      clear H_src'
      have l_src := H_src.lt
      have c_src_0 : v4.cell? ⟨u2.heap.size, 0, none⟩ = some (.string ByteArray.empty) := H_src.cell 0
      have c_src_1 : v4.cell? ⟨u2.heap.size, 1, none⟩ = some (.slice (some ⟨b, off, none⟩) len0 c) := H_src.cell 1
      have H_loc := H_loc'
      clear H_loc'
      have l_loc := H_loc.lt
      have c_loc_0 : v4.cell? ⟨v1.heap.size, 0, none⟩ = some (.pointer (some ⟨u2.heap.size, 0, none⟩)) := H_loc.cell 0
      have c_loc_1 : v4.cell? ⟨v1.heap.size, 1, none⟩ = some (.string a1) := H_loc.cell 1
      have c_loc_2 : v4.cell? ⟨v1.heap.size, 2, none⟩ = some (.int .i64 a2) := H_loc.cell 2
      have c_loc_3 : v4.cell? ⟨v1.heap.size, 3, none⟩ = some (.int .i64 a3) := H_loc.cell 3
      have c_loc_4 : v4.cell? ⟨v1.heap.size, 4, none⟩ = some (.int .i64 ((n1 : Int) + 1)) := H_loc.cell 4
      have c_loc_5 : v4.cell? ⟨v1.heap.size, 5, none⟩ = some (.int .i64 a5) := H_loc.cell 5
      have H_le := H_le'
      clear H_le'
      have l_le := H_le.lt
      have c_le_0 : v4.cell? ⟨v2.heap.size, 0, none⟩ = some (.pointer (some ⟨u2.heap.size, 0, none⟩)) := H_le.cell 0
      have c_le_1 : v4.cell? ⟨v2.heap.size, 1, none⟩ = some (.string a1) := H_le.cell 1
      have c_le_2 : v4.cell? ⟨v2.heap.size, 2, none⟩ = some (.int .i64 ((n1 : Int) + 1)) := H_le.cell 2
      have c_le_3 : v4.cell? ⟨v2.heap.size, 3, none⟩ = some (.int .i64 a5) := H_le.cell 3
      have c_le_4 : v4.cell? ⟨v2.heap.size, 4, none⟩ = some (.int .i64 ((n1 : Int) + 1)) := H_le.cell 4
      have c_le_5 : v4.cell? ⟨v2.heap.size, 5, none⟩ = some (.int .i64 (t1.size : Int)) := H_le.cell 5
      have H_got := H_got'
      clear H_got'
      have l_got := H_got.lt
      have c_got_0 : v4.cell? ⟨v3.heap.size, 0, none⟩ = some (.pointer (some ⟨u2.heap.size, 0, none⟩)) := H_got.cell 0
      have c_got_1 : v4.cell? ⟨v3.heap.size, 1, none⟩ = some (.string a1) := H_got.cell 1
      have c_got_2 : v4.cell? ⟨v3.heap.size, 2, none⟩ = some (.int .i64 ((n1 : Int) + 1)) := H_got.cell 2
      have c_got_3 : v4.cell? ⟨v3.heap.size, 3, none⟩ = some (.int .i64 1) := H_got.cell 3
      have c_got_4 : v4.cell? ⟨v3.heap.size, 4, none⟩ = some (.int .i64 ((n1 : Int) + 1)) := H_got.cell 4
      have c_got_5 : v4.cell? ⟨v3.heap.size, 5, none⟩ = some (.int .i64 a5) := H_got.cell 5
      have H_probe := H_probe'
      clear H_probe'
      have l_probe := H_probe.lt
      have c_probe_0 : v4.cell? ⟨v3.heap.size + 1, 0, none⟩ = some (.pointer (some ⟨u2.heap.size, 0, none⟩)) := H_probe.cell 0
      have c_probe_1 : v4.cell? ⟨v3.heap.size + 1, 1, none⟩ = some (.string a1) := H_probe.cell 1
      have c_probe_2 : v4.cell? ⟨v3.heap.size + 1, 2, none⟩ = some (.int .i64 ((n1 : Int) + 1)) := H_probe.cell 2
      have c_probe_3 : v4.cell? ⟨v3.heap.size + 1, 3, none⟩ = some (.int .i64 a5) := H_probe.cell 3
      have c_probe_4 : v4.cell? ⟨v3.heap.size + 1, 4, none⟩ = some (.int .i64 0) := H_probe.cell 4
      have c_probe_5 : v4.cell? ⟨v3.heap.size + 1, 5, none⟩ = some (.int .i64 0) := H_probe.cell 5
      have hB' := below_trans hBX hb
      have hU' := below_trans hUX hb
      clear hB hU hBX hUX hb
      have hB := hB'
      have hU := hU'
      clear hB' hU'
      clear hlb
      have hlb : b < v4.heap.size := lt_of_cell (cell_later hU hcell1)
      have hs1 : v4.cell? ⟨b, off + n1, none⟩ = some (.string t1) := cell_later hU hcell1
      go_wp2_with fail
      go_ret
      exact ⟨rfl, by first | exact hB | exact below_alloc hB _ | exact below_alloc (below_alloc hB _) _ | exact below_drewN hB _ | exact below_alloc (below_drewN hB _) _⟩
    · obtain ⟨n1, rfl⟩ : ∃ n : Nat, a4 = (n : Int) + 1 := ⟨(a4 - 1).toNat, by omega⟩
      have hn1 : n1 < len0 := by omega
      have hn1' : (n1 : Int) < (len0 : Int) := by omega
      have hn10 : (0 : Int) ≤ (n1 : Int) := by omega
      obtain ⟨b, off, t1, rfl, hblt, hs, hsz1, hcell1⟩ := hst.at_ hn1
      clear hs
      have hdA1 : decide ((1 : Int) ≤ ((n1 : Int) + 1)) = true := decide_eq_true (by omega)
      have hdA2 : decide (((n1 : Int) + 1) ≤ (len0 : Int)) = true := decide_eq_true (by omega)
      have hdD1 : decide ((1 : Int) ≤ a2) = true := decide_eq_true (by omega)
      have hdD2 : decide (a2 ≤ (len0 : Int)) = false := decide_eq_false (by omega)
      have HX_src := Blk.new u2 29 #[.string ByteArray.empty, .slice (some ⟨b, off, none⟩) len0 c]
      have hBX : Below w.heap.size w ((u2).alloc (.cells #[.string ByteArray.empty, .slice (some ⟨b, off, none⟩) len0 c] 29)) := below_alloc hB _
      have hUX : Below u2.heap.size u2 ((u2).alloc (.cells #[.string ByteArray.empty, .slice (some ⟨b, off, none⟩) len0 c] 29)) := below_alloc hU _
      go_wp2_with fail
      refine (makeLoc_any _ _ _ _ _ _ _).mono ?_
      rintro e v1 ⟨rfl, hb⟩
      have H_src' := HX_src.below hb HX_src.lt
      clear HX_src
      have H_src := H_src'
      clear H_src'
      have l_src := H_src.lt
      have c_src_0 : v1.cell? ⟨u2.heap.size, 0, none⟩ = some (.string ByteArray.empty) := H_src.cell 0
      have c_src_1 : v1.cell? ⟨u2.heap.size, 1, none⟩ = some (.slice (some ⟨b, off, none⟩) len0 c) := H_src.cell 1
      have hB' := below_trans hBX hb
      have hU' := below_trans hUX hb
      clear hB hU hBX hUX hb
      have hB := hB'
      have hU := hU'
      clear hB' hU'
      have hlb : b < v1.heap.size := lt_of_cell (cell_later hU hcell1)
      have hs1 : v1.cell? ⟨b, off + n1, none⟩ = some (.string t1) := cell_later hU hcell1
      have HX_src := H_src.alloc (.cells #[.pointer (some ⟨u2.heap.size, 0, none⟩), .string a1, .int .i64 a2, .int .i64 a3, .int .i64 ((n1 : Int) + 1), .int .i64 a5] 33)
      have HX_loc := Blk.new v1 33 #[.pointer (some ⟨u2.heap.size, 0, none⟩), .string a1, .int .i64 a2, .int .i64 a3, .int .i64 ((n1 : Int) + 1), .int .i64 a5]
      have hBX : Below w.heap.size w ((v1).alloc (.cells #[.pointer (some ⟨u2.heap.size, 0, none⟩), .string a1, .int .i64 a2, .int .i64 a3, .int .i64 ((n1 : Int) + 1), .int .i64 a5] 33)) := below_alloc hB _
      have hUX : Below u2.heap.size u2 ((v1).alloc (.cells #[.pointer (some ⟨u2.heap.size, 0, none⟩), .string a1, .int .i64 a2, .int .i64 a3, .int .i64 ((n1 : Int) + 1), .int .i64 a5] 33)) := below_alloc hU _
      go_wp2_with fail
      refine (lineE_any _ _ _ a1 a5 n1 b off len0 c t1 _ (HX_loc.cell 0) (HX_loc.cell 1) (HX_loc.cell 4) (HX_loc.cell 5) (HX_src.cell 1) hn1 hl (cell_later hUX hcell1) hsz1).mono ?_
      rintro e v2 ⟨rfl, hb⟩
      clear hs1
      have H_src' := HX_src.below hb HX_src.lt
      have H_loc' := HX_loc.below hb HX_loc.lt
      clear HX_src HX_loc
      clear H_src l_src c_src_0 c_src_1
      have H_src := H_src'
      clear H_src'
      have l_src := H_src.lt
      have c_src_0 : v2.cell? ⟨u2.heap.size, 0, none⟩ = some (.string ByteArray.empty) := H_src.cell 0
      have c_src_1 : v2.cell? ⟨u2.heap.size, 1, none⟩ = some (.slice (some ⟨b, off, none⟩) len0 c) := H_src.cell 1
      have H_loc := H_loc'
      clear H_loc'
      have l_loc := H_loc.lt
      have c_loc_0 : v2.cell? ⟨v1.heap.size, 0, none⟩ = some (.pointer (some ⟨u2.heap.size, 0, none⟩)) := H_loc.cell 0
      have c_loc_1 : v2.cell? ⟨v1.heap.size, 1, none⟩ = some (.string a1) := H_loc.cell 1
      have c_loc_2 : v2.cell? ⟨v1.heap.size, 2, none⟩ = some (.int .i64 a2) := H_loc.cell 2
      have c_loc_3 : v2.cell? ⟨v1.heap.size, 3, none⟩ = some (.int .i64 a3) := H_loc.cell 3
      have c_loc_4 : v2.cell? ⟨v1.heap.size, 4, none⟩ = some (.int .i64 ((n1 : Int) + 1)) := H_loc.cell 4
      have c_loc_5 : v2.cell? ⟨v1.heap.size, 5, none⟩ = some (.int .i64 a5) := H_loc.cell 5
      have hB' := below_trans hBX hb
      have hU' := below_trans hUX hb
      clear hB hU hBX hUX hb
      have hB := hB'
      have hU := hU'
      clear hB' hU'
      clear hlb
      have hlb : b < v2.heap.size := lt_of_cell (cell_later hU hcell1)
      have hs1 : v2.cell? ⟨b, off + n1, none⟩ = some (.string t1) := cell_later hU hcell1
      have HX_src := H_src.alloc (.cells #[.pointer (some ⟨u2.heap.size, 0, none⟩), .string a1, .int .i64 ((n1 : Int) + 1), .int .i64 a5, .int .i64 ((n1 : Int) + 1), .int .i64 (t1.size : Int)] 33)
      have HX_loc := H_loc.alloc (.cells #[.pointer (some ⟨u2.heap.size, 0, none⟩), .string a1, .int .i64 ((n1 : Int) + 1), .int .i64 a5, .int .i64 ((n1 : Int) + 1), .int .i64 (t1.size : Int)] 33)
      have HX_le := Blk.new v2 33 #[.pointer (some ⟨u2.heap.size, 0, none⟩), .string a1, .int .i64 ((n1 : Int) + 1), .int .i64 a5, .int .i64 ((n1 : Int) + 1), .int .i64 (t1.size : Int)]
      have hBX : Below w.heap.size w ((v2).alloc (.cells #[.pointer (some ⟨u2.heap.size, 0, none⟩), .string a1, .int .i64 ((n1 : Int) + 1), .int .i64 a5, .int .i64 ((n1 : Int) + 1), .int .i64 (t1.size : Int)] 33)) := below_alloc hB _
      have hUX : Below u2.heap.size u2 ((v2).alloc (.cells #[.pointer (some ⟨u2.heap.size, 0, none⟩), .string a1, .int .i64 ((n1 : Int) + 1), .int .i64 a5, .int .i64 ((n1 : Int) + 1), .int .i64 (t1.size : Int)] 33)) := below_alloc hU _
      go_wp2_with fail
      refine (lineB_any _ _ _ _ _ _ _ (HX_le.cell 0) (HX_le.cell 1) (HX_le.cell 2) (HX_le.cell 3)).mono ?_
      rintro e v3 ⟨rfl, hb⟩
      clear hs1
      have H_src' := HX_src.below hb HX_src.lt
      have H_loc' := HX_loc.below hb HX_loc.lt
      have H_le' := HX_le.below hb HX_le.lt
      clear HX_src HX_loc HX_le
      clear H_src l_src c_src_0 c_src_1 H_loc l_loc c_loc_0 c_loc_1 c_loc_2 c_loc_3 c_loc_4 c_loc_5
      have H_src := H_src'
      clear H_src'
      have l_src := H_src.lt
      have c_src_0 : v3.cell? ⟨u2.heap.size, 0, none⟩ = some (.string ByteArray.empty) := H_src.cell 0
      have c_src_1 : v3.cell? ⟨u2.heap.size, 1, none⟩ = some (.slice (some ⟨b, off, none⟩) len0 c) := H_src.cell 1
      have H_loc := H_loc'
      clear H_loc'
      have l_loc := H_loc.lt
      have c_loc_0 : v3.cell? ⟨v1.heap.size, 0, none⟩ = some (.pointer (some ⟨u2.heap.size, 0, none⟩)) := H_loc.cell 0
      have c_loc_1 : v3.cell? ⟨v1.heap.size, 1, none⟩ = some (.string a1) := H_loc.cell 1
      have c_loc_2 : v3.cell? ⟨v1.heap.size, 2, none⟩ = some (.int .i64 a2) := H_loc.cell 2
      have c_loc_3 : v3.cell? ⟨v1.heap.size, 3, none⟩ = some (.int .i64 a3) := H_loc.cell 3
      have c_loc_4 : v3.cell? ⟨v1.heap.size, 4, none⟩ = some (.int .i64 ((n1 : Int) + 1)) := H_loc.cell 4
      have c_loc_5 : v3.cell? ⟨v1.heap.size, 5, none⟩ = some (.int .i64 a5) := H_loc.cell 5
      have H_le := H_le'
      clear H_le'
      have l_le := H_le.lt
      have c_le_0 : v3.cell? ⟨v2.heap.size, 0, none⟩ = some (.pointer (some ⟨u2.heap.size, 0, none⟩)) := H_le.cell 0
      have c_le_1 : v3.cell? ⟨v2.heap.size, 1, none⟩ = some (.string a1) := H_le.cell 1
      have c_le_2 : v3.cell? ⟨v2.heap.size, 2, none⟩ = some (.int .i64 ((n1 : Int) + 1)) := H_le.cell 2
      have c_le_3 : v3.cell? ⟨v2.heap.size, 3, none⟩ = some (.int .i64 a5) := H_le.cell 3
      have c_le_4 : v3.cell? ⟨v2.heap.size, 4, none⟩ = some (.int .i64 ((n1 : Int) + 1)) := H_le.cell 4
      have c_le_5 : v3.cell? ⟨v2.heap.size, 5, none⟩ = some (.int .i64 (t1.size : Int)) := H_le.cell 5
      have hB' := below_trans hBX hb
      have hU' := below_trans hUX hb
      clear hB hU hBX hUX hb
      have hB := hB'
      have hU := hU'
      clear hB' hU'
      clear hlb
      have hlb : b < v3.heap.size := lt_of_cell (cell_later hU hcell1)
      have hs1 : v3.cell? ⟨b, off + n1, none⟩ = some (.string t1) := cell_later hU hcell1
      have HX_src := (H_src.alloc (.cells #[.pointer (some ⟨u2.heap.size, 0, none⟩), .string a1, .int .i64 ((n1 : Int) + 1), .int .i64 1, .int .i64 ((n1 : Int) + 1), .int .i64 a5] 33)).alloc (.cells #[.pointer (some ⟨u2.heap.size, 0, none⟩), .string a1, .int .i64 ((n1 : Int) + 1), .int .i64 a5, .int .i64 0, .int .i64 0] 33)
      have HX_loc := (H_loc.alloc (.cells #[.pointer (some ⟨u2.heap.size, 0, none⟩), .string a1, .int .i64 ((n1 : Int) + 1), .int .i64 1, .int .i64 ((n1 : Int) + 1), .int .i64 a5] 33)).alloc (.cells #[.pointer (some ⟨u2.heap.size, 0, none⟩), .string a1, .int .i64 ((n1 : Int) + 1), .int .i64 a5, .int .i64 0, .int .i64 0] 33)
      have HX_le := (H_le.alloc (.cells #[.pointer (some ⟨u2.heap.size, 0, none⟩), .string a1, .int .i64 ((n1 : Int) + 1), .int .i64 1, .int .i64 ((n1 : Int) + 1), .int .i64 a5] 33)).alloc (.cells #[.pointer (some ⟨u2.heap.size, 0, none⟩), .string a1, .int .i64 ((n1 : Int) + 1), .int .i64 a5, .int .i64 0, .int .i64 0] 33)
      have HX_got := (Blk.new v3 33 #[.pointer (some ⟨u2.heap.size, 0, none⟩), .string a1, .int .i64 ((n1 : Int) + 1), .int .i64 1, .int .i64 ((n1 : Int) + 1), .int .i64 a5]).alloc (.cells #[.pointer (some ⟨u2.heap.size, 0, none⟩), .string a1, .int .i64 ((n1 : Int) + 1), .int .i64 a5, .int .i64 0, .int .i64 0] 33)
      have HX_probe := Blk.new1 v3 (.cells #[.pointer (some ⟨u2.heap.size, 0, none⟩), .string a1, .int .i64 ((n1 : Int) + 1), .int .i64 1, .int .i64 ((n1 : Int) + 1), .int .i64 a5] 33) 33 #[.pointer (some ⟨u2.heap.size, 0, none⟩), .string a1, .int .i64 ((n1 : Int) + 1), .int .i64 a5, .int .i64 0, .int .i64 0]
      have hBX : Below w.heap.size w (((v3).alloc (.cells #[.pointer (some ⟨u2.heap.size, 0, none⟩), .string a1, .int .i64 ((n1 : Int) + 1), .int .i64 1, .int .i64 ((n1 : Int) + 1), .int .i64 a5] 33)).alloc (.cells #[.pointer (some ⟨u2.heap.size, 0, none⟩), .string a1, .int .i64 ((n1 : Int) + 1), .int .i64 a5, .int .i64 0, .int .i64 0] 33)) := below_alloc (below_alloc hB _) _
      have hUX : Below u2.heap.size u2 (((v3).alloc (.cells #[.pointer (some ⟨u2.heap.size, 0, none⟩), .string a1, .int .i64 ((n1 : Int) + 1), .int .i64 1, .int .i64 ((n1 : Int) + 1), .int .i64 a5] 33)).alloc (.cells #[.pointer (some ⟨u2.heap.size, 0, none⟩), .string a1, .int .i64 ((n1 : Int) + 1), .int .i64 a5, .int .i64 0, .int .i64 0] 33)) := below_alloc (below_alloc hU _) _
      go_wp2_with fail
      have hq4 := HX_got.lt
      have q4_0 : (((v3).alloc (.cells #[.pointer (some ⟨u2.heap.size, 0, none⟩), .string a1, .int .i64 ((n1 : Int) + 1), .int .i64 1, .int .i64 ((n1 : Int) + 1), .int .i64 a5] 33)).alloc (.cells #[.pointer (some ⟨u2.heap.size, 0, none⟩), .string a1, .int .i64 ((n1 : Int) + 1), .int .i64 a5, .int .i64 0, .int .i64 0] 33)).cell? ⟨v3.heap.size, 0, none⟩ = some (.pointer (some ⟨u2.heap.size, 0, none⟩)) := HX_got.cell 0
      have q4_1 : (((v3).alloc (.cells #[.pointer (some ⟨u2.heap.size, 0, none⟩), .string a1, .int .i64 ((n1 : Int) + 1), .int .i64 1, .int .i64 ((n1 : Int) + 1), .int .i64 a5] 33)).alloc (.cells #[.pointer (some ⟨u2.heap.size, 0, none⟩), .string a1, .int .i64 ((n1 : Int) + 1), .int .i64 a5, .int .i64 0, .int .i64 0] 33)).cell? ⟨v3.heap.size, 1, none⟩ = some (.string a1) := HX_got.cell 1
      have q4_2 : (((v3).alloc (.cells #[.pointer (some ⟨u2.heap.size, 0, none⟩), .string a1, .int .i64 ((n1 : Int) + 1), .int .i64 1, .int .i64 ((n1 : Int) + 1), .int .i64 a5] 33)).alloc (.cells #[.pointer (some ⟨u2.heap.size, 0, none⟩), .string a1, .int .i64 ((n1 : Int) + 1), .int .i64 a5, .int .i64 0, .int .i64 0] 33)).cell? ⟨v3.heap.size, 2, none⟩ = some (.int .i64 ((n1 : Int) + 1)) := HX_got.cell 2
      have q4_3 : (((v3).alloc (.cells #[.pointer (some ⟨u2.heap.size, 0, none⟩), .string a1, .int .i64 ((n1 : Int) + 1), .int .i64 1, .int .i64 ((n1 : Int) + 1), .int .i64 a5] 33)).alloc (.cells #[.pointer (some ⟨u2.heap.size, 0, none⟩), .string a1, .int .i64 ((n1 : Int) + 1), .int .i64 a5, .int .i64 0, .int .i64 0] 33)).cell? ⟨v3.heap.size, 3, none⟩ = some (.int .i64 1) := HX_got.cell 3
      have q4_4 : (((v3).alloc (.cells #[.pointer (some ⟨u2.heap.size, 0, none⟩), .string a1, .int .i64 ((n1 : Int) + 1), .int .i64 1, .int .i64 ((n1 : Int) + 1), .int .i64 a5] 33)).alloc (.cells #[.pointer (some ⟨u2.heap.size, 0, none⟩), .string a1, .int .i64 ((n1 : Int) + 1), .int .i64 a5, .int .i64 0, .int .i64 0] 33)).cell? ⟨v3.heap.size, 4, none⟩ = some (.int .i64 ((n1 : Int) + 1)) := HX_got.cell 4
      have q4_5 : (((v3).alloc (.cells #[.pointer (some ⟨u2.heap.size, 0, none⟩), .string a1, .int .i64 ((n1 : Int) + 1), .int .i64 1, .int .i64 ((n1 : Int) + 1), .int .i64 a5] 33)).alloc (.cells #[.pointer (some ⟨u2.heap.size, 0, none⟩), .string a1, .int .i64 ((n1 : Int) + 1), .int .i64 a5, .int .i64 0, .int .i64 0] 33)).cell? ⟨v3.heap.size, 5, none⟩ = some (.int .i64 a5) := HX_got.cell 5
      have HY_src := HX_src.drew
      clear HX_src
      have HX_src := HY_src
      clear HY_src
      have HY_loc := HX_loc.drew
      clear HX_loc
      have HX_loc := HY_loc
      clear HY_loc
      have HY_le := HX_le.drew
      clear HX_le
      have HX_le := HY_le
      clear HY_le
      have HY_got := HX_got.drew
      clear HX_got
      have HX_got := HY_got
      clear HY_got
      have HY_probe := HX_probe.drew
      clear HX_probe
      have HX_probe := HY_probe
      clear HY_probe
      have hBY := Below.drew hBX
      have hUY := Below.drew hUX
      clear hBX hUX
      have hBX := hBY
      have hUX := hUY
      clear hBY hUY
      go_region_held3 (fun w' => w'.cell? ⟨v3.heap.size, 0, none⟩ = some (.pointer (some ⟨u2.heap.size, 0, none⟩)) ∧ w'.cell? ⟨v3.heap.size, 1, none⟩ = some (.string a1) ∧ w'.cell? ⟨v3.heap.size, 2, none⟩ = some (.int .i64 ((n1 : Int) + 1)) ∧ w'.cell? ⟨v3.heap.size, 3, none⟩ = some (.int .i64 1) ∧ w'.cell? ⟨v3.heap.size, 4, none⟩ = some (.int .i64 ((n1 : Int) + 1)) ∧ w'.cell? ⟨v3.heap.size, 5, none⟩ = some (.int .i64 a5)) (first | go_keep | (go_split_ands; refine ⟨cell_later hb (by assumption), cell_later hb (by assumption), cell_later hb (by assumption), cell_later hb (by assumption), cell_later hb (by assumption), cell_later hb (by assumption)⟩)) (first | (go_at_call 15; refine (lineB_any _ _ _ _ _ _ _ (HX_probe.cell 0) (HX_probe.cell 1) (HX_probe.cell 2) (HX_probe.cell 3)).mono ?_; rintro e v4 ⟨rfl, hb⟩; obtain ⟨hc4, hf4⟩ := bcell hb))
      clear hc4 hf4 hq4 q4_0 q4_1 q4_2 q4_3 q4_4 q4_5
      clear hs1
      have H_src' := HX_src.below hb HX_src.lt
      have H_loc' := HX_loc.below hb HX_loc.lt
      have H_le' := HX_le.below hb HX_le.lt
      have H_got' := HX_got.below hb HX_got.lt
      have H_probe' := HX_probe.below hb HX_probe.lt
      clear HX_src HX_loc HX_le HX_got HX_probe
      clear H_src l_src c_src_0 c_src_1 H_loc l_loc c_loc_0 c_loc_1 c_loc_2 c_loc_3 c_loc_4 c_loc_5 H_le l_le c_le_0 c_le_1 c_le_2 c_le_3 c_le_4 c_le_5
      have H_src := H_src'
      clear H_src'
      have l_src := H_src.lt
      have c_src_0 : v4.cell? ⟨u2.heap.size, 0, none⟩ = some (.string ByteArray.empty) := H_src.cell 0
      have c_src_1 : v4.cell? ⟨u2.heap.size, 1, none⟩ = some (.slice (some ⟨b, off, none⟩) len0 c) := H_src.cell 1
      have H_loc := H_loc'
      clear H_loc'
      have l_loc := H_loc.lt
      have c_loc_0 : v4.cell? ⟨v1.heap.size, 0, none⟩ = some (.pointer (some ⟨u2.heap.size, 0, none⟩)) := H_loc.cell 0
      have c_loc_1 : v4.cell? ⟨v1.heap.size, 1, none⟩ = some (.string a1) := H_loc.cell 1
      have c_loc_2 : v4.cell? ⟨v1.heap.size, 2, none⟩ = some (.int .i64 a2) := H_loc.cell 2
      have c_loc_3 : v4.cell? ⟨v1.heap.size, 3, none⟩ = some (.int .i64 a3) := H_loc.cell 3
      have c_loc_4 : v4.cell? ⟨v1.heap.size, 4, none⟩ = some (.int .i64 ((n1 : Int) + 1)) := H_loc.cell 4
      have c_loc_5 : v4.cell? ⟨v1.heap.size, 5, none⟩ = some (.int .i64 a5) := H_loc.cell 5
      have H_le := H_le'
      clear H_le'
      have l_le := H_le.lt
      have c_le_0 : v4.cell? ⟨v2.heap.size, 0, none⟩ = some (.pointer (some ⟨u2.heap.size, 0, none⟩)) := H_le.cell 0
      have c_le_1 : v4.cell? ⟨v2.heap.size, 1, none⟩ = some (.string a1) := H_le.cell 1
      have c_le_2 : v4.cell? ⟨v2.heap.size, 2, none⟩ = some (.int .i64 ((n1 : Int) + 1)) := H_le.cell 2
      have c_le_3 : v4.cell? ⟨v2.heap.size, 3, none⟩ = some (.int .i64 a5) := H_le.cell 3
      have c_le_4 : v4.cell? ⟨v2.heap.size, 4, none⟩ = some (.int .i64 ((n1 : Int) + 1)) := H_le.cell 4
      have c_le_5 : v4.cell? ⟨v2.heap.size, 5, none⟩ = some (.int .i64 (t1.size : Int)) := H_le.cell 5
      have H_got := H_got'
      clear H_got'
      have l_got := H_got.lt
      have c_got_0 : v4.cell? ⟨v3.heap.size, 0, none⟩ = some (.pointer (some ⟨u2.heap.size, 0, none⟩)) := H_got.cell 0
      have c_got_1 : v4.cell? ⟨v3.heap.size, 1, none⟩ = some (.string a1) := H_got.cell 1
      have c_got_2 : v4.cell? ⟨v3.heap.size, 2, none⟩ = some (.int .i64 ((n1 : Int) + 1)) := H_got.cell 2
      have c_got_3 : v4.cell? ⟨v3.heap.size, 3, none⟩ = some (.int .i64 1) := H_got.cell 3
      have c_got_4 : v4.cell? ⟨v3.heap.size, 4, none⟩ = some (.int .i64 ((n1 : Int) + 1)) := H_got.cell 4
      have c_got_5 : v4.cell? ⟨v3.heap.size, 5, none⟩ = some (.int .i64 a5) := H_got.cell 5
      have H_probe := H_probe'
      clear H_probe'
      have l_probe := H_probe.lt
      have c_probe_0 : v4.cell? ⟨v3.heap.size + 1, 0, none⟩ = some (.pointer (some ⟨u2.heap.size, 0, none⟩)) := H_probe.cell 0
      have c_probe_1 : v4.cell? ⟨v3.heap.size + 1, 1, none⟩ = some (.string a1) := H_probe.cell 1
      have c_probe_2 : v4.cell? ⟨v3.heap.size + 1, 2, none⟩ = some (.int .i64 ((n1 : Int) + 1)) := H_probe.cell 2
      have c_probe_3 : v4.cell? ⟨v3.heap.size + 1, 3, none⟩ = some (.int .i64 a5) := H_probe.cell 3
      have c_probe_4 : v4.cell? ⟨v3.heap.size + 1, 4, none⟩ = some (.int .i64 0) := H_probe.cell 4
      have c_probe_5 : v4.cell? ⟨v3.heap.size + 1, 5, none⟩ = some (.int .i64 0) := H_probe.cell 5
      have hB' := below_trans hBX hb
      have hU' := below_trans hUX hb
      clear hB hU hBX hUX hb
      have hB := hB'
      have hU := hU'
      clear hB' hU'
      clear hlb
      have hlb : b < v4.heap.size := lt_of_cell (cell_later hU hcell1)
      have hs1 : v4.cell? ⟨b, off + n1, none⟩ = some (.string t1) := cell_later hU hcell1
      go_wp2_with fail
      go_ret
      exact ⟨rfl, by first | exact hB | exact below_alloc hB _ | exact below_alloc (below_alloc hB _) _ | exact below_drewN hB _ | exact below_alloc (below_drewN hB _) _⟩
  · rcases hD with ⟨hD1, hD2⟩ | hD1 | hD1
    · obtain ⟨n2, rfl⟩ : ∃ n : Nat, a2 = (n : Int) + 1 := ⟨(a2 - 1).toNat, by omega⟩
      have hn2 : n2 < len0 := by omega
      have hn2' : (n2 : Int) < (len0 : Int) := by omega
      have hn20 : (0 : Int) ≤ (n2 : Int) := by omega
      obtain ⟨b, off, t2, rfl, hblt2, hs2, hsz2, hcell2⟩ := hst.at_ hn2
      clear hs2
      have hw1 : IntKind.i64.wrap ((n2 : Int) + 1 - 1) = (n2 : Int) := by rw [show (n2 : Int) + 1 - 1 = (n2 : Int) by omega]; exact IntWalk.i64_in _ ⟨by omega, by omega⟩
      have hid : ((n2 : Int) + 1 - 1) = (n2 : Int) := by omega
      have hdA1 : decide ((1 : Int) ≤ a4) = false := decide_eq_false (by omega)
      have hdD1 : decide ((1 : Int) ≤ ((n2 : Int) + 1)) = true := decide_eq_true (by omega)
      have hdD2 : decide (((n2 : Int) + 1) ≤ (len0 : Int)) = true := decide_eq_true (by omega)
      have HX_src := Blk.new u2 29 #[.string ByteArray.empty, .slice (some ⟨b, off, none⟩) len0 c]
      have hBX : Below w.heap.size w ((u2).alloc (.cells #[.string ByteArray.empty, .slice (some ⟨b, off, none⟩) len0 c] 29)) := below_alloc hB _
      have hUX : Below u2.heap.size u2 ((u2).alloc (.cells #[.string ByteArray.empty, .slice (some ⟨b, off, none⟩) len0 c] 29)) := below_alloc hU _
      go_wp2_with fail
      refine (makeLoc_any _ _ _ _ _ _ _).mono ?_
      rintro e v1 ⟨rfl, hb⟩
      have H_src' := HX_src.below hb HX_src.lt
      clear HX_src
      have H_src := H_src'
      clear H_src'
      have l_src := H_src.lt
      have c_src_0 : v1.cell? ⟨u2.heap.size, 0, none⟩ = some (.string ByteArray.empty) := H_src.cell 0
      have c_src_1 : v1.cell? ⟨u2.heap.size, 1, none⟩ = some (.slice (some ⟨b, off, none⟩) len0 c) := H_src.cell 1
      have hB' := below_trans hBX hb
      have hU' := below_trans hUX hb
      clear hB hU hBX hUX hb
      have hB := hB'
      have hU := hU'
      clear hB' hU'
      have hlb : b < v1.heap.size := lt_of_cell (cell_later hU hcell2)
      have hs2 : v1.cell? ⟨b, off + n2, none⟩ = some (.string t2) := cell_later hU hcell2
      have HX_src := H_src.alloc (.cells #[.pointer (some ⟨u2.heap.size, 0, none⟩), .string a1, .int .i64 ((n2 : Int) + 1), .int .i64 a3, .int .i64 a4, .int .i64 a5] 33)
      have HX_loc := Blk.new v1 33 #[.pointer (some ⟨u2.heap.size, 0, none⟩), .string a1, .int .i64 ((n2 : Int) + 1), .int .i64 a3, .int .i64 a4, .int .i64 a5]
      have hBX : Below w.heap.size w ((v1).alloc (.cells #[.pointer (some ⟨u2.heap.size, 0, none⟩), .string a1, .int .i64 ((n2 : Int) + 1), .int .i64 a3, .int .i64 a4, .int .i64 a5] 33)) := below_alloc hB _
      have hUX : Below u2.heap.size u2 ((v1).alloc (.cells #[.pointer (some ⟨u2.heap.size, 0, none⟩), .string a1, .int .i64 ((n2 : Int) + 1), .int .i64 a3, .int .i64 a4, .int .i64 a5] 33)) := below_alloc hU _
      go_wp2_with fail
      refine (lineB_any _ _ _ _ _ _ _ (HX_loc.cell 0) (HX_loc.cell 1) (HX_loc.cell 2) (HX_loc.cell 3)).mono ?_
      rintro e v2 ⟨rfl, hb⟩
      clear hs2
      have H_src' := HX_src.below hb HX_src.lt
      have H_loc' := HX_loc.below hb HX_loc.lt
      clear HX_src HX_loc
      clear H_src l_src c_src_0 c_src_1
      have H_src := H_src'
      clear H_src'
      have l_src := H_src.lt
      have c_src_0 : v2.cell? ⟨u2.heap.size, 0, none⟩ = some (.string ByteArray.empty) := H_src.cell 0
      have c_src_1 : v2.cell? ⟨u2.heap.size, 1, none⟩ = some (.slice (some ⟨b, off, none⟩) len0 c) := H_src.cell 1
      have H_loc := H_loc'
      clear H_loc'
      have l_loc := H_loc.lt
      have c_loc_0 : v2.cell? ⟨v1.heap.size, 0, none⟩ = some (.pointer (some ⟨u2.heap.size, 0, none⟩)) := H_loc.cell 0
      have c_loc_1 : v2.cell? ⟨v1.heap.size, 1, none⟩ = some (.string a1) := H_loc.cell 1
      have c_loc_2 : v2.cell? ⟨v1.heap.size, 2, none⟩ = some (.int .i64 ((n2 : Int) + 1)) := H_loc.cell 2
      have c_loc_3 : v2.cell? ⟨v1.heap.size, 3, none⟩ = some (.int .i64 a3) := H_loc.cell 3
      have c_loc_4 : v2.cell? ⟨v1.heap.size, 4, none⟩ = some (.int .i64 a4) := H_loc.cell 4
      have c_loc_5 : v2.cell? ⟨v1.heap.size, 5, none⟩ = some (.int .i64 a5) := H_loc.cell 5
      have hB' := below_trans hBX hb
      have hU' := below_trans hUX hb
      clear hB hU hBX hUX hb
      have hB := hB'
      have hU := hU'
      clear hB' hU'
      clear hlb
      have hlb : b < v2.heap.size := lt_of_cell (cell_later hU hcell2)
      have hs2 : v2.cell? ⟨b, off + n2, none⟩ = some (.string t2) := cell_later hU hcell2
      have HX_src := H_src.alloc (.cells #[.pointer (some ⟨u2.heap.size, 0, none⟩), .string a1, .int .i64 ((n2 : Int) + 1), .int .i64 1, .int .i64 ((n2 : Int) + 1), .int .i64 a3] 33)
      have HX_loc := H_loc.alloc (.cells #[.pointer (some ⟨u2.heap.size, 0, none⟩), .string a1, .int .i64 ((n2 : Int) + 1), .int .i64 1, .int .i64 ((n2 : Int) + 1), .int .i64 a3] 33)
      have HX_lb := Blk.new v2 33 #[.pointer (some ⟨u2.heap.size, 0, none⟩), .string a1, .int .i64 ((n2 : Int) + 1), .int .i64 1, .int .i64 ((n2 : Int) + 1), .int .i64 a3]
      have hBX : Below w.heap.size w ((v2).alloc (.cells #[.pointer (some ⟨u2.heap.size, 0, none⟩), .string a1, .int .i64 ((n2 : Int) + 1), .int .i64 1, .int .i64 ((n2 : Int) + 1), .int .i64 a3] 33)) := below_alloc hB _
      have hUX : Below u2.heap.size u2 ((v2).alloc (.cells #[.pointer (some ⟨u2.heap.size, 0, none⟩), .string a1, .int .i64 ((n2 : Int) + 1), .int .i64 1, .int .i64 ((n2 : Int) + 1), .int .i64 a3] 33)) := below_alloc hU _
      go_wp2_with fail
      refine (lineE_any _ _ _ a1 a3 n2 b off len0 c t2 _ (HX_lb.cell 0) (HX_lb.cell 1) (HX_lb.cell 4) (HX_lb.cell 5) (HX_src.cell 1) hn2 hl (cell_later hUX hcell2) hsz2).mono ?_
      rintro e v3 ⟨rfl, hb⟩
      clear hs2
      have H_src' := HX_src.below hb HX_src.lt
      have H_loc' := HX_loc.below hb HX_loc.lt
      have H_lb' := HX_lb.below hb HX_lb.lt
      clear HX_src HX_loc HX_lb
      clear H_src l_src c_src_0 c_src_1 H_loc l_loc c_loc_0 c_loc_1 c_loc_2 c_loc_3 c_loc_4 c_loc_5
      have H_src := H_src'
      clear H_src'
      have l_src := H_src.lt
      have c_src_0 : v3.cell? ⟨u2.heap.size, 0, none⟩ = some (.string ByteArray.empty) := H_src.cell 0
      have c_src_1 : v3.cell? ⟨u2.heap.size, 1, none⟩ = some (.slice (some ⟨b, off, none⟩) len0 c) := H_src.cell 1
      have H_loc := H_loc'
      clear H_loc'
      have l_loc := H_loc.lt
      have c_loc_0 : v3.cell? ⟨v1.heap.size, 0, none⟩ = some (.pointer (some ⟨u2.heap.size, 0, none⟩)) := H_loc.cell 0
      have c_loc_1 : v3.cell? ⟨v1.heap.size, 1, none⟩ = some (.string a1) := H_loc.cell 1
      have c_loc_2 : v3.cell? ⟨v1.heap.size, 2, none⟩ = some (.int .i64 ((n2 : Int) + 1)) := H_loc.cell 2
      have c_loc_3 : v3.cell? ⟨v1.heap.size, 3, none⟩ = some (.int .i64 a3) := H_loc.cell 3
      have c_loc_4 : v3.cell? ⟨v1.heap.size, 4, none⟩ = some (.int .i64 a4) := H_loc.cell 4
      have c_loc_5 : v3.cell? ⟨v1.heap.size, 5, none⟩ = some (.int .i64 a5) := H_loc.cell 5
      have H_lb := H_lb'
      clear H_lb'
      have l_lb := H_lb.lt
      have c_lb_0 : v3.cell? ⟨v2.heap.size, 0, none⟩ = some (.pointer (some ⟨u2.heap.size, 0, none⟩)) := H_lb.cell 0
      have c_lb_1 : v3.cell? ⟨v2.heap.size, 1, none⟩ = some (.string a1) := H_lb.cell 1
      have c_lb_2 : v3.cell? ⟨v2.heap.size, 2, none⟩ = some (.int .i64 ((n2 : Int) + 1)) := H_lb.cell 2
      have c_lb_3 : v3.cell? ⟨v2.heap.size, 3, none⟩ = some (.int .i64 1) := H_lb.cell 3
      have c_lb_4 : v3.cell? ⟨v2.heap.size, 4, none⟩ = some (.int .i64 ((n2 : Int) + 1)) := H_lb.cell 4
      have c_lb_5 : v3.cell? ⟨v2.heap.size, 5, none⟩ = some (.int .i64 a3) := H_lb.cell 5
      have hB' := below_trans hBX hb
      have hU' := below_trans hUX hb
      clear hB hU hBX hUX hb
      have hB := hB'
      have hU := hU'
      clear hB' hU'
      clear hlb
      have hlb : b < v3.heap.size := lt_of_cell (cell_later hU hcell2)
      have hs2 : v3.cell? ⟨b, off + n2, none⟩ = some (.string t2) := cell_later hU hcell2
      have HX_src := (H_src.alloc (.cells #[.pointer (some ⟨u2.heap.size, 0, none⟩), .string a1, .int .i64 ((n2 : Int) + 1), .int .i64 a3, .int .i64 ((n2 : Int) + 1), .int .i64 (t2.size : Int)] 33)).alloc (.cells #[.pointer (some ⟨u2.heap.size, 0, none⟩), .string a1, .int .i64 0, .int .i64 0, .int .i64 ((n2 : Int) + 1), .int .i64 a3] 33)
      have HX_loc := (H_loc.alloc (.cells #[.pointer (some ⟨u2.heap.size, 0, none⟩), .string a1, .int .i64 ((n2 : Int) + 1), .int .i64 a3, .int .i64 ((n2 : Int) + 1), .int .i64 (t2.size : Int)] 33)).alloc (.cells #[.pointer (some ⟨u2.heap.size, 0, none⟩), .string a1, .int .i64 0, .int .i64 0, .int .i64 ((n2 : Int) + 1), .int .i64 a3] 33)
      have HX_lb := (H_lb.alloc (.cells #[.pointer (some ⟨u2.heap.size, 0, none⟩), .string a1, .int .i64 ((n2 : Int) + 1), .int .i64 a3, .int .i64 ((n2 : Int) + 1), .int .i64 (t2.size : Int)] 33)).alloc (.cells #[.pointer (some ⟨u2.heap.size, 0, none⟩), .string a1, .int .i64 0, .int .i64 0, .int .i64 ((n2 : Int) + 1), .int .i64 a3] 33)
      have HX_got2 := (Blk.new v3 33 #[.pointer (some ⟨u2.heap.size, 0, none⟩), .string a1, .int .i64 ((n2 : Int) + 1), .int .i64 a3, .int .i64 ((n2 : Int) + 1), .int .i64 (t2.size : Int)]).alloc (.cells #[.pointer (some ⟨u2.heap.size, 0, none⟩), .string a1, .int .i64 0, .int .i64 0, .int .i64 ((n2 : Int) + 1), .int .i64 a3] 33)
      have HX_probe2 := Blk.new1 v3 (.cells #[.pointer (some ⟨u2.heap.size, 0, none⟩), .string a1, .int .i64 ((n2 : Int) + 1), .int .i64 a3, .int .i64 ((n2 : Int) + 1), .int .i64 (t2.size : Int)] 33) 33 #[.pointer (some ⟨u2.heap.size, 0, none⟩), .string a1, .int .i64 0, .int .i64 0, .int .i64 ((n2 : Int) + 1), .int .i64 a3]
      have hBX : Below w.heap.size w (((v3).alloc (.cells #[.pointer (some ⟨u2.heap.size, 0, none⟩), .string a1, .int .i64 ((n2 : Int) + 1), .int .i64 a3, .int .i64 ((n2 : Int) + 1), .int .i64 (t2.size : Int)] 33)).alloc (.cells #[.pointer (some ⟨u2.heap.size, 0, none⟩), .string a1, .int .i64 0, .int .i64 0, .int .i64 ((n2 : Int) + 1), .int .i64 a3] 33)) := below_alloc (below_alloc hB _) _
      have hUX : Below u2.heap.size u2 (((v3).alloc (.cells #[.pointer (some ⟨u2.heap.size, 0, none⟩), .string a1, .int .i64 ((n2 : Int) + 1), .int .i64 a3, .int .i64 ((n2 : Int) + 1), .int .i64 (t2.size : Int)] 33)).alloc (.cells #[.pointer (some ⟨u2.heap.size, 0, none⟩), .string a1, .int .i64 0, .int .i64 0, .int .i64 ((n2 : Int) + 1), .int .i64 a3] 33)) := below_alloc (below_alloc hU _) _
      go_wp2_with fail
      have hq4 := HX_got2.lt
      have q4_0 : (((v3).alloc (.cells #[.pointer (some ⟨u2.heap.size, 0, none⟩), .string a1, .int .i64 ((n2 : Int) + 1), .int .i64 a3, .int .i64 ((n2 : Int) + 1), .int .i64 (t2.size : Int)] 33)).alloc (.cells #[.pointer (some ⟨u2.heap.size, 0, none⟩), .string a1, .int .i64 0, .int .i64 0, .int .i64 ((n2 : Int) + 1), .int .i64 a3] 33)).cell? ⟨v3.heap.size, 0, none⟩ = some (.pointer (some ⟨u2.heap.size, 0, none⟩)) := HX_got2.cell 0
      have q4_1 : (((v3).alloc (.cells #[.pointer (some ⟨u2.heap.size, 0, none⟩), .string a1, .int .i64 ((n2 : Int) + 1), .int .i64 a3, .int .i64 ((n2 : Int) + 1), .int .i64 (t2.size : Int)] 33)).alloc (.cells #[.pointer (some ⟨u2.heap.size, 0, none⟩), .string a1, .int .i64 0, .int .i64 0, .int .i64 ((n2 : Int) + 1), .int .i64 a3] 33)).cell? ⟨v3.heap.size, 1, none⟩ = some (.string a1) := HX_got2.cell 1
      have q4_2 : (((v3).alloc (.cells #[.pointer (some ⟨u2.heap.size, 0, none⟩), .string a1, .int .i64 ((n2 : Int) + 1), .int .i64 a3, .int .i64 ((n2 : Int) + 1), .int .i64 (t2.size : Int)] 33)).alloc (.cells #[.pointer (some ⟨u2.heap.size, 0, none⟩), .string a1, .int .i64 0, .int .i64 0, .int .i64 ((n2 : Int) + 1), .int .i64 a3] 33)).cell? ⟨v3.heap.size, 2, none⟩ = some (.int .i64 ((n2 : Int) + 1)) := HX_got2.cell 2
      have q4_3 : (((v3).alloc (.cells #[.pointer (some ⟨u2.heap.size, 0, none⟩), .string a1, .int .i64 ((n2 : Int) + 1), .int .i64 a3, .int .i64 ((n2 : Int) + 1), .int .i64 (t2.size : Int)] 33)).alloc (.cells #[.pointer (some ⟨u2.heap.size, 0, none⟩), .string a1, .int .i64 0, .int .i64 0, .int .i64 ((n2 : Int) + 1), .int .i64 a3] 33)).cell? ⟨v3.heap.size, 3, none⟩ = some (.int .i64 a3) := HX_got2.cell 3
      have q4_4 : (((v3).alloc (.cells #[.pointer (some ⟨u2.heap.size, 0, none⟩), .string a1, .int .i64 ((n2 : Int) + 1), .int .i64 a3, .int .i64 ((n2 : Int) + 1), .int .i64 (t2.size : Int)] 33)).alloc (.cells #[.pointer (some ⟨u2.heap.size, 0, none⟩), .string a1, .int .i64 0, .int .i64 0, .int .i64 ((n2 : Int) + 1), .int .i64 a3] 33)).cell? ⟨v3.heap.size, 4, none⟩ = some (.int .i64 ((n2 : Int) + 1)) := HX_got2.cell 4
      have q4_5 : (((v3).alloc (.cells #[.pointer (some ⟨u2.heap.size, 0, none⟩), .string a1, .int .i64 ((n2 : Int) + 1), .int .i64 a3, .int .i64 ((n2 : Int) + 1), .int .i64 (t2.size : Int)] 33)).alloc (.cells #[.pointer (some ⟨u2.heap.size, 0, none⟩), .string a1, .int .i64 0, .int .i64 0, .int .i64 ((n2 : Int) + 1), .int .i64 a3] 33)).cell? ⟨v3.heap.size, 5, none⟩ = some (.int .i64 (t2.size : Int)) := HX_got2.cell 5
      have HY_src := HX_src.drew
      clear HX_src
      have HX_src := HY_src
      clear HY_src
      have HY_loc := HX_loc.drew
      clear HX_loc
      have HX_loc := HY_loc
      clear HY_loc
      have HY_lb := HX_lb.drew
      clear HX_lb
      have HX_lb := HY_lb
      clear HY_lb
      have HY_got2 := HX_got2.drew
      clear HX_got2
      have HX_got2 := HY_got2
      clear HY_got2
      have HY_probe2 := HX_probe2.drew
      clear HX_probe2
      have HX_probe2 := HY_probe2
      clear HY_probe2
      have hBY := Below.drew hBX
      have hUY := Below.drew hUX
      clear hBX hUX
      have hBX := hBY
      have hUX := hUY
      clear hBY hUY
      go_region_held3 (fun w' => w'.cell? ⟨v3.heap.size, 0, none⟩ = some (.pointer (some ⟨u2.heap.size, 0, none⟩)) ∧ w'.cell? ⟨v3.heap.size, 1, none⟩ = some (.string a1) ∧ w'.cell? ⟨v3.heap.size, 2, none⟩ = some (.int .i64 ((n2 : Int) + 1)) ∧ w'.cell? ⟨v3.heap.size, 3, none⟩ = some (.int .i64 a3) ∧ w'.cell? ⟨v3.heap.size, 4, none⟩ = some (.int .i64 ((n2 : Int) + 1)) ∧ w'.cell? ⟨v3.heap.size, 5, none⟩ = some (.int .i64 (t2.size : Int))) (first | go_keep | (go_split_ands; refine ⟨cell_later hb (by assumption), cell_later hb (by assumption), cell_later hb (by assumption), cell_later hb (by assumption), cell_later hb (by assumption), cell_later hb (by assumption)⟩)) (first | (go_at_call 17; refine (lineE_any _ _ _ a1 a3 n2 b off len0 c t2 _ (HX_probe2.cell 0) (HX_probe2.cell 1) (HX_probe2.cell 4) (HX_probe2.cell 5) (HX_src.cell 1) hn2 hl (cell_later hUX hcell2) hsz2).mono ?_; rintro e v4 ⟨rfl, hb⟩; obtain ⟨hc4, hf4⟩ := bcell hb))
      clear hc4 hf4 hq4 q4_0 q4_1 q4_2 q4_3 q4_4 q4_5
      clear hs2
      have H_src' := HX_src.below hb HX_src.lt
      have H_loc' := HX_loc.below hb HX_loc.lt
      have H_lb' := HX_lb.below hb HX_lb.lt
      have H_got2' := HX_got2.below hb HX_got2.lt
      have H_probe2' := HX_probe2.below hb HX_probe2.lt
      clear HX_src HX_loc HX_lb HX_got2 HX_probe2
      clear H_src l_src c_src_0 c_src_1 H_loc l_loc c_loc_0 c_loc_1 c_loc_2 c_loc_3 c_loc_4 c_loc_5 H_lb l_lb c_lb_0 c_lb_1 c_lb_2 c_lb_3 c_lb_4 c_lb_5
      have H_src := H_src'
      clear H_src'
      have l_src := H_src.lt
      have c_src_0 : v4.cell? ⟨u2.heap.size, 0, none⟩ = some (.string ByteArray.empty) := H_src.cell 0
      have c_src_1 : v4.cell? ⟨u2.heap.size, 1, none⟩ = some (.slice (some ⟨b, off, none⟩) len0 c) := H_src.cell 1
      have H_loc := H_loc'
      clear H_loc'
      have l_loc := H_loc.lt
      have c_loc_0 : v4.cell? ⟨v1.heap.size, 0, none⟩ = some (.pointer (some ⟨u2.heap.size, 0, none⟩)) := H_loc.cell 0
      have c_loc_1 : v4.cell? ⟨v1.heap.size, 1, none⟩ = some (.string a1) := H_loc.cell 1
      have c_loc_2 : v4.cell? ⟨v1.heap.size, 2, none⟩ = some (.int .i64 ((n2 : Int) + 1)) := H_loc.cell 2
      have c_loc_3 : v4.cell? ⟨v1.heap.size, 3, none⟩ = some (.int .i64 a3) := H_loc.cell 3
      have c_loc_4 : v4.cell? ⟨v1.heap.size, 4, none⟩ = some (.int .i64 a4) := H_loc.cell 4
      have c_loc_5 : v4.cell? ⟨v1.heap.size, 5, none⟩ = some (.int .i64 a5) := H_loc.cell 5
      have H_lb := H_lb'
      clear H_lb'
      have l_lb := H_lb.lt
      have c_lb_0 : v4.cell? ⟨v2.heap.size, 0, none⟩ = some (.pointer (some ⟨u2.heap.size, 0, none⟩)) := H_lb.cell 0
      have c_lb_1 : v4.cell? ⟨v2.heap.size, 1, none⟩ = some (.string a1) := H_lb.cell 1
      have c_lb_2 : v4.cell? ⟨v2.heap.size, 2, none⟩ = some (.int .i64 ((n2 : Int) + 1)) := H_lb.cell 2
      have c_lb_3 : v4.cell? ⟨v2.heap.size, 3, none⟩ = some (.int .i64 1) := H_lb.cell 3
      have c_lb_4 : v4.cell? ⟨v2.heap.size, 4, none⟩ = some (.int .i64 ((n2 : Int) + 1)) := H_lb.cell 4
      have c_lb_5 : v4.cell? ⟨v2.heap.size, 5, none⟩ = some (.int .i64 a3) := H_lb.cell 5
      have H_got2 := H_got2'
      clear H_got2'
      have l_got2 := H_got2.lt
      have c_got2_0 : v4.cell? ⟨v3.heap.size, 0, none⟩ = some (.pointer (some ⟨u2.heap.size, 0, none⟩)) := H_got2.cell 0
      have c_got2_1 : v4.cell? ⟨v3.heap.size, 1, none⟩ = some (.string a1) := H_got2.cell 1
      have c_got2_2 : v4.cell? ⟨v3.heap.size, 2, none⟩ = some (.int .i64 ((n2 : Int) + 1)) := H_got2.cell 2
      have c_got2_3 : v4.cell? ⟨v3.heap.size, 3, none⟩ = some (.int .i64 a3) := H_got2.cell 3
      have c_got2_4 : v4.cell? ⟨v3.heap.size, 4, none⟩ = some (.int .i64 ((n2 : Int) + 1)) := H_got2.cell 4
      have c_got2_5 : v4.cell? ⟨v3.heap.size, 5, none⟩ = some (.int .i64 (t2.size : Int)) := H_got2.cell 5
      have H_probe2 := H_probe2'
      clear H_probe2'
      have l_probe2 := H_probe2.lt
      have c_probe2_0 : v4.cell? ⟨v3.heap.size + 1, 0, none⟩ = some (.pointer (some ⟨u2.heap.size, 0, none⟩)) := H_probe2.cell 0
      have c_probe2_1 : v4.cell? ⟨v3.heap.size + 1, 1, none⟩ = some (.string a1) := H_probe2.cell 1
      have c_probe2_2 : v4.cell? ⟨v3.heap.size + 1, 2, none⟩ = some (.int .i64 0) := H_probe2.cell 2
      have c_probe2_3 : v4.cell? ⟨v3.heap.size + 1, 3, none⟩ = some (.int .i64 0) := H_probe2.cell 3
      have c_probe2_4 : v4.cell? ⟨v3.heap.size + 1, 4, none⟩ = some (.int .i64 ((n2 : Int) + 1)) := H_probe2.cell 4
      have c_probe2_5 : v4.cell? ⟨v3.heap.size + 1, 5, none⟩ = some (.int .i64 a3) := H_probe2.cell 5
      have hB' := below_trans hBX hb
      have hU' := below_trans hUX hb
      clear hB hU hBX hUX hb
      have hB := hB'
      have hU := hU'
      clear hB' hU'
      clear hlb
      have hlb : b < v4.heap.size := lt_of_cell (cell_later hU hcell2)
      have hs2 : v4.cell? ⟨b, off + n2, none⟩ = some (.string t2) := cell_later hU hcell2
      go_wp2_with fail
      go_quiet (fail)
      go_wp2_with fail
      go_ret
      exact ⟨rfl, by first | exact hB | exact below_alloc hB _ | exact below_alloc (below_alloc hB _) _ | exact below_drewN hB _ | exact below_alloc (below_drewN hB _) _⟩
    · have hdA1 : decide ((1 : Int) ≤ a4) = false := decide_eq_false (by omega)
      have hdD1 : decide ((1 : Int) ≤ a2) = false := decide_eq_false (by omega)
      have HX_src := Blk.new u2 29 #[.string ByteArray.empty, .slice x len0 c]
      have hBX : Below w.heap.size w ((u2).alloc (.cells #[.string ByteArray.empty, .slice x len0 c] 29)) := below_alloc hB _
      have hUX : Below u2.heap.size u2 ((u2).alloc (.cells #[.string ByteArray.empty, .slice x len0 c] 29)) := below_alloc hU _
      go_wp2_with fail
      refine (makeLoc_any _ _ _ _ _ _ _).mono ?_
      rintro e v1 ⟨rfl, hb⟩
      have H_src' := HX_src.below hb HX_src.lt
      clear HX_src
      have H_src := H_src'
      clear H_src'
      have l_src := H_src.lt
      have c_src_0 : v1.cell? ⟨u2.heap.size, 0, none⟩ = some (.string ByteArray.empty) := H_src.cell 0
      have c_src_1 : v1.cell? ⟨u2.heap.size, 1, none⟩ = some (.slice x len0 c) := H_src.cell 1
      have hB' := below_trans hBX hb
      have hU' := below_trans hUX hb
      clear hB hU hBX hUX hb
      have hB := hB'
      have hU := hU'
      clear hB' hU'
      go_wp2_with fail
      go_ret
      exact ⟨rfl, by first | exact hB | exact below_alloc hB _ | exact below_alloc (below_alloc hB _) _ | exact below_drewN hB _ | exact below_alloc (below_drewN hB _) _⟩
    · have hdA1 : decide ((1 : Int) ≤ a4) = false := decide_eq_false (by omega)
      have hdD1 : decide ((1 : Int) ≤ a2) = true := decide_eq_true (by omega)
      have hdD2 : decide (a2 ≤ (len0 : Int)) = false := decide_eq_false (by omega)
      have HX_src := Blk.new u2 29 #[.string ByteArray.empty, .slice x len0 c]
      have hBX : Below w.heap.size w ((u2).alloc (.cells #[.string ByteArray.empty, .slice x len0 c] 29)) := below_alloc hB _
      have hUX : Below u2.heap.size u2 ((u2).alloc (.cells #[.string ByteArray.empty, .slice x len0 c] 29)) := below_alloc hU _
      go_wp2_with fail
      refine (makeLoc_any _ _ _ _ _ _ _).mono ?_
      rintro e v1 ⟨rfl, hb⟩
      have H_src' := HX_src.below hb HX_src.lt
      clear HX_src
      have H_src := H_src'
      clear H_src'
      have l_src := H_src.lt
      have c_src_0 : v1.cell? ⟨u2.heap.size, 0, none⟩ = some (.string ByteArray.empty) := H_src.cell 0
      have c_src_1 : v1.cell? ⟨u2.heap.size, 1, none⟩ = some (.slice x len0 c) := H_src.cell 1
      have hB' := below_trans hBX hb
      have hU' := below_trans hUX hb
      clear hB hU hBX hUX hb
      have hB := hB'
      have hU := hU'
      clear hB' hU'
      go_wp2_with fail
      go_ret
      exact ⟨rfl, by first | exact hB | exact below_alloc hB _ | exact below_alloc (below_alloc hB _) _ | exact below_drewN hB _ | exact below_alloc (below_drewN hB _) _⟩
  · rcases hD with ⟨hD1, hD2⟩ | hD1 | hD1
    · obtain ⟨n2, rfl⟩ : ∃ n : Nat, a2 = (n : Int) + 1 := ⟨(a2 - 1).toNat, by omega⟩
      have hn2 : n2 < len0 := by omega
      have hn2' : (n2 : Int) < (len0 : Int) := by omega
      have hn20 : (0 : Int) ≤ (n2 : Int) := by omega
      obtain ⟨b, off, t2, rfl, hblt2, hs2, hsz2, hcell2⟩ := hst.at_ hn2
      clear hs2
      have hw1 : IntKind.i64.wrap ((n2 : Int) + 1 - 1) = (n2 : Int) := by rw [show (n2 : Int) + 1 - 1 = (n2 : Int) by omega]; exact IntWalk.i64_in _ ⟨by omega, by omega⟩
      have hid : ((n2 : Int) + 1 - 1) = (n2 : Int) := by omega
      have hdA1 : decide ((1 : Int) ≤ a4) = true := decide_eq_true (by omega)
      have hdA2 : decide (a4 ≤ (len0 : Int)) = false := decide_eq_false (by omega)
      have hdD1 : decide ((1 : Int) ≤ ((n2 : Int) + 1)) = true := decide_eq_true (by omega)
      have hdD2 : decide (((n2 : Int) + 1) ≤ (len0 : Int)) = true := decide_eq_true (by omega)
      have HX_src := Blk.new u2 29 #[.string ByteArray.empty, .slice (some ⟨b, off, none⟩) len0 c]
      have hBX : Below w.heap.size w ((u2).alloc (.cells #[.string ByteArray.empty, .slice (some ⟨b, off, none⟩) len0 c] 29)) := below_alloc hB _
      have hUX : Below u2.heap.size u2 ((u2).alloc (.cells #[.string ByteArray.empty, .slice (some ⟨b, off, none⟩) len0 c] 29)) := below_alloc hU _
      go_wp2_with fail
      refine (makeLoc_any _ _ _ _ _ _ _).mono ?_
      rintro e v1 ⟨rfl, hb⟩
      have H_src' := HX_src.below hb HX_src.lt
      clear HX_src
      have H_src := H_src'
      clear H_src'
      have l_src := H_src.lt
      have c_src_0 : v1.cell? ⟨u2.heap.size, 0, none⟩ = some (.string ByteArray.empty) := H_src.cell 0
      have c_src_1 : v1.cell? ⟨u2.heap.size, 1, none⟩ = some (.slice (some ⟨b, off, none⟩) len0 c) := H_src.cell 1
      have hB' := below_trans hBX hb
      have hU' := below_trans hUX hb
      clear hB hU hBX hUX hb
      have hB := hB'
      have hU := hU'
      clear hB' hU'
      have hlb : b < v1.heap.size := lt_of_cell (cell_later hU hcell2)
      have hs2 : v1.cell? ⟨b, off + n2, none⟩ = some (.string t2) := cell_later hU hcell2
      have HX_src := H_src.alloc (.cells #[.pointer (some ⟨u2.heap.size, 0, none⟩), .string a1, .int .i64 ((n2 : Int) + 1), .int .i64 a3, .int .i64 a4, .int .i64 a5] 33)
      have HX_loc := Blk.new v1 33 #[.pointer (some ⟨u2.heap.size, 0, none⟩), .string a1, .int .i64 ((n2 : Int) + 1), .int .i64 a3, .int .i64 a4, .int .i64 a5]
      have hBX : Below w.heap.size w ((v1).alloc (.cells #[.pointer (some ⟨u2.heap.size, 0, none⟩), .string a1, .int .i64 ((n2 : Int) + 1), .int .i64 a3, .int .i64 a4, .int .i64 a5] 33)) := below_alloc hB _
      have hUX : Below u2.heap.size u2 ((v1).alloc (.cells #[.pointer (some ⟨u2.heap.size, 0, none⟩), .string a1, .int .i64 ((n2 : Int) + 1), .int .i64 a3, .int .i64 a4, .int .i64 a5] 33)) := below_alloc hU _
      go_wp2_with fail
      refine (lineB_any _ _ _ _ _ _ _ (HX_loc.cell 0) (HX_loc.cell 1) (HX_loc.cell 2) (HX_loc.cell 3)).mono ?_
      rintro e v2 ⟨rfl, hb⟩
      clear hs2
      have H_src' := HX_src.below hb HX_src.lt
      have H_loc' := HX_loc.below hb HX_loc.lt
      clear HX_src HX_loc
      clear H_src l_src c_src_0 c_src_1
      have H_src := H_src'
      clear H_src'
      have l_src := H_src.lt
      have c_src_0 : v2.cell? ⟨u2.heap.size, 0, none⟩ = some (.string ByteArray.empty) := H_src.cell 0
      have c_src_1 : v2.cell? ⟨u2.heap.size, 1, none⟩ = some (.slice (some ⟨b, off, none⟩) len0 c) := H_src.cell 1
      have H_loc := H_loc'
      clear H_loc'
      have l_loc := H_loc.lt
      have c_loc_0 : v2.cell? ⟨v1.heap.size, 0, none⟩ = some (.pointer (some ⟨u2.heap.size, 0, none⟩)) := H_loc.cell 0
      have c_loc_1 : v2.cell? ⟨v1.heap.size, 1, none⟩ = some (.string a1) := H_loc.cell 1
      have c_loc_2 : v2.cell? ⟨v1.heap.size, 2, none⟩ = some (.int .i64 ((n2 : Int) + 1)) := H_loc.cell 2
      have c_loc_3 : v2.cell? ⟨v1.heap.size, 3, none⟩ = some (.int .i64 a3) := H_loc.cell 3
      have c_loc_4 : v2.cell? ⟨v1.heap.size, 4, none⟩ = some (.int .i64 a4) := H_loc.cell 4
      have c_loc_5 : v2.cell? ⟨v1.heap.size, 5, none⟩ = some (.int .i64 a5) := H_loc.cell 5
      have hB' := below_trans hBX hb
      have hU' := below_trans hUX hb
      clear hB hU hBX hUX hb
      have hB := hB'
      have hU := hU'
      clear hB' hU'
      clear hlb
      have hlb : b < v2.heap.size := lt_of_cell (cell_later hU hcell2)
      have hs2 : v2.cell? ⟨b, off + n2, none⟩ = some (.string t2) := cell_later hU hcell2
      have HX_src := H_src.alloc (.cells #[.pointer (some ⟨u2.heap.size, 0, none⟩), .string a1, .int .i64 ((n2 : Int) + 1), .int .i64 1, .int .i64 ((n2 : Int) + 1), .int .i64 a3] 33)
      have HX_loc := H_loc.alloc (.cells #[.pointer (some ⟨u2.heap.size, 0, none⟩), .string a1, .int .i64 ((n2 : Int) + 1), .int .i64 1, .int .i64 ((n2 : Int) + 1), .int .i64 a3] 33)
      have HX_lb := Blk.new v2 33 #[.pointer (some ⟨u2.heap.size, 0, none⟩), .string a1, .int .i64 ((n2 : Int) + 1), .int .i64 1, .int .i64 ((n2 : Int) + 1), .int .i64 a3]
      have hBX : Below w.heap.size w ((v2).alloc (.cells #[.pointer (some ⟨u2.heap.size, 0, none⟩), .string a1, .int .i64 ((n2 : Int) + 1), .int .i64 1, .int .i64 ((n2 : Int) + 1), .int .i64 a3] 33)) := below_alloc hB _
      have hUX : Below u2.heap.size u2 ((v2).alloc (.cells #[.pointer (some ⟨u2.heap.size, 0, none⟩), .string a1, .int .i64 ((n2 : Int) + 1), .int .i64 1, .int .i64 ((n2 : Int) + 1), .int .i64 a3] 33)) := below_alloc hU _
      go_wp2_with fail
      refine (lineE_any _ _ _ a1 a3 n2 b off len0 c t2 _ (HX_lb.cell 0) (HX_lb.cell 1) (HX_lb.cell 4) (HX_lb.cell 5) (HX_src.cell 1) hn2 hl (cell_later hUX hcell2) hsz2).mono ?_
      rintro e v3 ⟨rfl, hb⟩
      clear hs2
      have H_src' := HX_src.below hb HX_src.lt
      have H_loc' := HX_loc.below hb HX_loc.lt
      have H_lb' := HX_lb.below hb HX_lb.lt
      clear HX_src HX_loc HX_lb
      clear H_src l_src c_src_0 c_src_1 H_loc l_loc c_loc_0 c_loc_1 c_loc_2 c_loc_3 c_loc_4 c_loc_5
      have H_src := H_src'
      clear H_src'
      have l_src := H_src.lt
      have c_src_0 : v3.cell? ⟨u2.heap.size, 0, none⟩ = some (.string ByteArray.empty) := H_src.cell 0
      have c_src_1 : v3.cell? ⟨u2.heap.size, 1, none⟩ = some (.slice (some ⟨b, off, none⟩) len0 c) := H_src.cell 1
      have H_loc := H_loc'
      clear H_loc'
      have l_loc := H_loc.lt
      have c_loc_0 : v3.cell? ⟨v1.heap.size, 0, none⟩ = some (.pointer (some ⟨u2.heap.size, 0, none⟩)) := H_loc.cell 0
      have c_loc_1 : v3.cell? ⟨v1.heap.size, 1, none⟩ = some (.string a1) := H_loc.cell 1
      have c_loc_2 : v3.cell? ⟨v1.heap.size, 2, none⟩ = some (.int .i64 ((n2 : Int) + 1)) := H_loc.cell 2
      have c_loc_3 : v3.cell? ⟨v1.heap.size, 3, none⟩ = some (.int .i64 a3) := H_loc.cell 3
      have c_loc_4 : v3.cell? ⟨v1.heap.size, 4, none⟩ = some (.int .i64 a4) := H_loc.cell 4
      have c_loc_5 : v3.cell? ⟨v1.heap.size, 5, none⟩ = some (.int .i64 a5) := H_loc.cell 5
      have H_lb := H_lb'
      clear H_lb'
      have l_lb := H_lb.lt
      have c_lb_0 : v3.cell? ⟨v2.heap.size, 0, none⟩ = some (.pointer (some ⟨u2.heap.size, 0, none⟩)) := H_lb.cell 0
      have c_lb_1 : v3.cell? ⟨v2.heap.size, 1, none⟩ = some (.string a1) := H_lb.cell 1
      have c_lb_2 : v3.cell? ⟨v2.heap.size, 2, none⟩ = some (.int .i64 ((n2 : Int) + 1)) := H_lb.cell 2
      have c_lb_3 : v3.cell? ⟨v2.heap.size, 3, none⟩ = some (.int .i64 1) := H_lb.cell 3
      have c_lb_4 : v3.cell? ⟨v2.heap.size, 4, none⟩ = some (.int .i64 ((n2 : Int) + 1)) := H_lb.cell 4
      have c_lb_5 : v3.cell? ⟨v2.heap.size, 5, none⟩ = some (.int .i64 a3) := H_lb.cell 5
      have hB' := below_trans hBX hb
      have hU' := below_trans hUX hb
      clear hB hU hBX hUX hb
      have hB := hB'
      have hU := hU'
      clear hB' hU'
      clear hlb
      have hlb : b < v3.heap.size := lt_of_cell (cell_later hU hcell2)
      have hs2 : v3.cell? ⟨b, off + n2, none⟩ = some (.string t2) := cell_later hU hcell2
      have HX_src := (H_src.alloc (.cells #[.pointer (some ⟨u2.heap.size, 0, none⟩), .string a1, .int .i64 ((n2 : Int) + 1), .int .i64 a3, .int .i64 ((n2 : Int) + 1), .int .i64 (t2.size : Int)] 33)).alloc (.cells #[.pointer (some ⟨u2.heap.size, 0, none⟩), .string a1, .int .i64 0, .int .i64 0, .int .i64 ((n2 : Int) + 1), .int .i64 a3] 33)
      have HX_loc := (H_loc.alloc (.cells #[.pointer (some ⟨u2.heap.size, 0, none⟩), .string a1, .int .i64 ((n2 : Int) + 1), .int .i64 a3, .int .i64 ((n2 : Int) + 1), .int .i64 (t2.size : Int)] 33)).alloc (.cells #[.pointer (some ⟨u2.heap.size, 0, none⟩), .string a1, .int .i64 0, .int .i64 0, .int .i64 ((n2 : Int) + 1), .int .i64 a3] 33)
      have HX_lb := (H_lb.alloc (.cells #[.pointer (some ⟨u2.heap.size, 0, none⟩), .string a1, .int .i64 ((n2 : Int) + 1), .int .i64 a3, .int .i64 ((n2 : Int) + 1), .int .i64 (t2.size : Int)] 33)).alloc (.cells #[.pointer (some ⟨u2.heap.size, 0, none⟩), .string a1, .int .i64 0, .int .i64 0, .int .i64 ((n2 : Int) + 1), .int .i64 a3] 33)
      have HX_got2 := (Blk.new v3 33 #[.pointer (some ⟨u2.heap.size, 0, none⟩), .string a1, .int .i64 ((n2 : Int) + 1), .int .i64 a3, .int .i64 ((n2 : Int) + 1), .int .i64 (t2.size : Int)]).alloc (.cells #[.pointer (some ⟨u2.heap.size, 0, none⟩), .string a1, .int .i64 0, .int .i64 0, .int .i64 ((n2 : Int) + 1), .int .i64 a3] 33)
      have HX_probe2 := Blk.new1 v3 (.cells #[.pointer (some ⟨u2.heap.size, 0, none⟩), .string a1, .int .i64 ((n2 : Int) + 1), .int .i64 a3, .int .i64 ((n2 : Int) + 1), .int .i64 (t2.size : Int)] 33) 33 #[.pointer (some ⟨u2.heap.size, 0, none⟩), .string a1, .int .i64 0, .int .i64 0, .int .i64 ((n2 : Int) + 1), .int .i64 a3]
      have hBX : Below w.heap.size w (((v3).alloc (.cells #[.pointer (some ⟨u2.heap.size, 0, none⟩), .string a1, .int .i64 ((n2 : Int) + 1), .int .i64 a3, .int .i64 ((n2 : Int) + 1), .int .i64 (t2.size : Int)] 33)).alloc (.cells #[.pointer (some ⟨u2.heap.size, 0, none⟩), .string a1, .int .i64 0, .int .i64 0, .int .i64 ((n2 : Int) + 1), .int .i64 a3] 33)) := below_alloc (below_alloc hB _) _
      have hUX : Below u2.heap.size u2 (((v3).alloc (.cells #[.pointer (some ⟨u2.heap.size, 0, none⟩), .string a1, .int .i64 ((n2 : Int) + 1), .int .i64 a3, .int .i64 ((n2 : Int) + 1), .int .i64 (t2.size : Int)] 33)).alloc (.cells #[.pointer (some ⟨u2.heap.size, 0, none⟩), .string a1, .int .i64 0, .int .i64 0, .int .i64 ((n2 : Int) + 1), .int .i64 a3] 33)) := below_alloc (below_alloc hU _) _
      go_wp2_with fail
      have hq4 := HX_got2.lt
      have q4_0 : (((v3).alloc (.cells #[.pointer (some ⟨u2.heap.size, 0, none⟩), .string a1, .int .i64 ((n2 : Int) + 1), .int .i64 a3, .int .i64 ((n2 : Int) + 1), .int .i64 (t2.size : Int)] 33)).alloc (.cells #[.pointer (some ⟨u2.heap.size, 0, none⟩), .string a1, .int .i64 0, .int .i64 0, .int .i64 ((n2 : Int) + 1), .int .i64 a3] 33)).cell? ⟨v3.heap.size, 0, none⟩ = some (.pointer (some ⟨u2.heap.size, 0, none⟩)) := HX_got2.cell 0
      have q4_1 : (((v3).alloc (.cells #[.pointer (some ⟨u2.heap.size, 0, none⟩), .string a1, .int .i64 ((n2 : Int) + 1), .int .i64 a3, .int .i64 ((n2 : Int) + 1), .int .i64 (t2.size : Int)] 33)).alloc (.cells #[.pointer (some ⟨u2.heap.size, 0, none⟩), .string a1, .int .i64 0, .int .i64 0, .int .i64 ((n2 : Int) + 1), .int .i64 a3] 33)).cell? ⟨v3.heap.size, 1, none⟩ = some (.string a1) := HX_got2.cell 1
      have q4_2 : (((v3).alloc (.cells #[.pointer (some ⟨u2.heap.size, 0, none⟩), .string a1, .int .i64 ((n2 : Int) + 1), .int .i64 a3, .int .i64 ((n2 : Int) + 1), .int .i64 (t2.size : Int)] 33)).alloc (.cells #[.pointer (some ⟨u2.heap.size, 0, none⟩), .string a1, .int .i64 0, .int .i64 0, .int .i64 ((n2 : Int) + 1), .int .i64 a3] 33)).cell? ⟨v3.heap.size, 2, none⟩ = some (.int .i64 ((n2 : Int) + 1)) := HX_got2.cell 2
      have q4_3 : (((v3).alloc (.cells #[.pointer (some ⟨u2.heap.size, 0, none⟩), .string a1, .int .i64 ((n2 : Int) + 1), .int .i64 a3, .int .i64 ((n2 : Int) + 1), .int .i64 (t2.size : Int)] 33)).alloc (.cells #[.pointer (some ⟨u2.heap.size, 0, none⟩), .string a1, .int .i64 0, .int .i64 0, .int .i64 ((n2 : Int) + 1), .int .i64 a3] 33)).cell? ⟨v3.heap.size, 3, none⟩ = some (.int .i64 a3) := HX_got2.cell 3
      have q4_4 : (((v3).alloc (.cells #[.pointer (some ⟨u2.heap.size, 0, none⟩), .string a1, .int .i64 ((n2 : Int) + 1), .int .i64 a3, .int .i64 ((n2 : Int) + 1), .int .i64 (t2.size : Int)] 33)).alloc (.cells #[.pointer (some ⟨u2.heap.size, 0, none⟩), .string a1, .int .i64 0, .int .i64 0, .int .i64 ((n2 : Int) + 1), .int .i64 a3] 33)).cell? ⟨v3.heap.size, 4, none⟩ = some (.int .i64 ((n2 : Int) + 1)) := HX_got2.cell 4
      have q4_5 : (((v3).alloc (.cells #[.pointer (some ⟨u2.heap.size, 0, none⟩), .string a1, .int .i64 ((n2 : Int) + 1), .int .i64 a3, .int .i64 ((n2 : Int) + 1), .int .i64 (t2.size : Int)] 33)).alloc (.cells #[.pointer (some ⟨u2.heap.size, 0, none⟩), .string a1, .int .i64 0, .int .i64 0, .int .i64 ((n2 : Int) + 1), .int .i64 a3] 33)).cell? ⟨v3.heap.size, 5, none⟩ = some (.int .i64 (t2.size : Int)) := HX_got2.cell 5
      have HY_src := HX_src.drew
      clear HX_src
      have HX_src := HY_src
      clear HY_src
      have HY_loc := HX_loc.drew
      clear HX_loc
      have HX_loc := HY_loc
      clear HY_loc
      have HY_lb := HX_lb.drew
      clear HX_lb
      have HX_lb := HY_lb
      clear HY_lb
      have HY_got2 := HX_got2.drew
      clear HX_got2
      have HX_got2 := HY_got2
      clear HY_got2
      have HY_probe2 := HX_probe2.drew
      clear HX_probe2
      have HX_probe2 := HY_probe2
      clear HY_probe2
      have hBY := Below.drew hBX
      have hUY := Below.drew hUX
      clear hBX hUX
      have hBX := hBY
      have hUX := hUY
      clear hBY hUY
      go_region_held3 (fun w' => w'.cell? ⟨v3.heap.size, 0, none⟩ = some (.pointer (some ⟨u2.heap.size, 0, none⟩)) ∧ w'.cell? ⟨v3.heap.size, 1, none⟩ = some (.string a1) ∧ w'.cell? ⟨v3.heap.size, 2, none⟩ = some (.int .i64 ((n2 : Int) + 1)) ∧ w'.cell? ⟨v3.heap.size, 3, none⟩ = some (.int .i64 a3) ∧ w'.cell? ⟨v3.heap.size, 4, none⟩ = some (.int .i64 ((n2 : Int) + 1)) ∧ w'.cell? ⟨v3.heap.size, 5, none⟩ = some (.int .i64 (t2.size : Int))) (first | go_keep | (go_split_ands; refine ⟨cell_later hb (by assumption), cell_later hb (by assumption), cell_later hb (by assumption), cell_later hb (by assumption), cell_later hb (by assumption), cell_later hb (by assumption)⟩)) (first | (go_at_call 17; refine (lineE_any _ _ _ a1 a3 n2 b off len0 c t2 _ (HX_probe2.cell 0) (HX_probe2.cell 1) (HX_probe2.cell 4) (HX_probe2.cell 5) (HX_src.cell 1) hn2 hl (cell_later hUX hcell2) hsz2).mono ?_; rintro e v4 ⟨rfl, hb⟩; obtain ⟨hc4, hf4⟩ := bcell hb))
      clear hc4 hf4 hq4 q4_0 q4_1 q4_2 q4_3 q4_4 q4_5
      clear hs2
      have H_src' := HX_src.below hb HX_src.lt
      have H_loc' := HX_loc.below hb HX_loc.lt
      have H_lb' := HX_lb.below hb HX_lb.lt
      have H_got2' := HX_got2.below hb HX_got2.lt
      have H_probe2' := HX_probe2.below hb HX_probe2.lt
      clear HX_src HX_loc HX_lb HX_got2 HX_probe2
      clear H_src l_src c_src_0 c_src_1 H_loc l_loc c_loc_0 c_loc_1 c_loc_2 c_loc_3 c_loc_4 c_loc_5 H_lb l_lb c_lb_0 c_lb_1 c_lb_2 c_lb_3 c_lb_4 c_lb_5
      have H_src := H_src'
      clear H_src'
      have l_src := H_src.lt
      have c_src_0 : v4.cell? ⟨u2.heap.size, 0, none⟩ = some (.string ByteArray.empty) := H_src.cell 0
      have c_src_1 : v4.cell? ⟨u2.heap.size, 1, none⟩ = some (.slice (some ⟨b, off, none⟩) len0 c) := H_src.cell 1
      have H_loc := H_loc'
      clear H_loc'
      have l_loc := H_loc.lt
      have c_loc_0 : v4.cell? ⟨v1.heap.size, 0, none⟩ = some (.pointer (some ⟨u2.heap.size, 0, none⟩)) := H_loc.cell 0
      have c_loc_1 : v4.cell? ⟨v1.heap.size, 1, none⟩ = some (.string a1) := H_loc.cell 1
      have c_loc_2 : v4.cell? ⟨v1.heap.size, 2, none⟩ = some (.int .i64 ((n2 : Int) + 1)) := H_loc.cell 2
      have c_loc_3 : v4.cell? ⟨v1.heap.size, 3, none⟩ = some (.int .i64 a3) := H_loc.cell 3
      have c_loc_4 : v4.cell? ⟨v1.heap.size, 4, none⟩ = some (.int .i64 a4) := H_loc.cell 4
      have c_loc_5 : v4.cell? ⟨v1.heap.size, 5, none⟩ = some (.int .i64 a5) := H_loc.cell 5
      have H_lb := H_lb'
      clear H_lb'
      have l_lb := H_lb.lt
      have c_lb_0 : v4.cell? ⟨v2.heap.size, 0, none⟩ = some (.pointer (some ⟨u2.heap.size, 0, none⟩)) := H_lb.cell 0
      have c_lb_1 : v4.cell? ⟨v2.heap.size, 1, none⟩ = some (.string a1) := H_lb.cell 1
      have c_lb_2 : v4.cell? ⟨v2.heap.size, 2, none⟩ = some (.int .i64 ((n2 : Int) + 1)) := H_lb.cell 2
      have c_lb_3 : v4.cell? ⟨v2.heap.size, 3, none⟩ = some (.int .i64 1) := H_lb.cell 3
      have c_lb_4 : v4.cell? ⟨v2.heap.size, 4, none⟩ = some (.int .i64 ((n2 : Int) + 1)) := H_lb.cell 4
      have c_lb_5 : v4.cell? ⟨v2.heap.size, 5, none⟩ = some (.int .i64 a3) := H_lb.cell 5
      have H_got2 := H_got2'
      clear H_got2'
      have l_got2 := H_got2.lt
      have c_got2_0 : v4.cell? ⟨v3.heap.size, 0, none⟩ = some (.pointer (some ⟨u2.heap.size, 0, none⟩)) := H_got2.cell 0
      have c_got2_1 : v4.cell? ⟨v3.heap.size, 1, none⟩ = some (.string a1) := H_got2.cell 1
      have c_got2_2 : v4.cell? ⟨v3.heap.size, 2, none⟩ = some (.int .i64 ((n2 : Int) + 1)) := H_got2.cell 2
      have c_got2_3 : v4.cell? ⟨v3.heap.size, 3, none⟩ = some (.int .i64 a3) := H_got2.cell 3
      have c_got2_4 : v4.cell? ⟨v3.heap.size, 4, none⟩ = some (.int .i64 ((n2 : Int) + 1)) := H_got2.cell 4
      have c_got2_5 : v4.cell? ⟨v3.heap.size, 5, none⟩ = some (.int .i64 (t2.size : Int)) := H_got2.cell 5
      have H_probe2 := H_probe2'
      clear H_probe2'
      have l_probe2 := H_probe2.lt
      have c_probe2_0 : v4.cell? ⟨v3.heap.size + 1, 0, none⟩ = some (.pointer (some ⟨u2.heap.size, 0, none⟩)) := H_probe2.cell 0
      have c_probe2_1 : v4.cell? ⟨v3.heap.size + 1, 1, none⟩ = some (.string a1) := H_probe2.cell 1
      have c_probe2_2 : v4.cell? ⟨v3.heap.size + 1, 2, none⟩ = some (.int .i64 0) := H_probe2.cell 2
      have c_probe2_3 : v4.cell? ⟨v3.heap.size + 1, 3, none⟩ = some (.int .i64 0) := H_probe2.cell 3
      have c_probe2_4 : v4.cell? ⟨v3.heap.size + 1, 4, none⟩ = some (.int .i64 ((n2 : Int) + 1)) := H_probe2.cell 4
      have c_probe2_5 : v4.cell? ⟨v3.heap.size + 1, 5, none⟩ = some (.int .i64 a3) := H_probe2.cell 5
      have hB' := below_trans hBX hb
      have hU' := below_trans hUX hb
      clear hB hU hBX hUX hb
      have hB := hB'
      have hU := hU'
      clear hB' hU'
      clear hlb
      have hlb : b < v4.heap.size := lt_of_cell (cell_later hU hcell2)
      have hs2 : v4.cell? ⟨b, off + n2, none⟩ = some (.string t2) := cell_later hU hcell2
      go_wp2_with fail
      go_quiet (fail)
      go_wp2_with fail
      go_ret
      exact ⟨rfl, by first | exact hB | exact below_alloc hB _ | exact below_alloc (below_alloc hB _) _ | exact below_drewN hB _ | exact below_alloc (below_drewN hB _) _⟩
    · have hdA1 : decide ((1 : Int) ≤ a4) = true := decide_eq_true (by omega)
      have hdA2 : decide (a4 ≤ (len0 : Int)) = false := decide_eq_false (by omega)
      have hdD1 : decide ((1 : Int) ≤ a2) = false := decide_eq_false (by omega)
      have HX_src := Blk.new u2 29 #[.string ByteArray.empty, .slice x len0 c]
      have hBX : Below w.heap.size w ((u2).alloc (.cells #[.string ByteArray.empty, .slice x len0 c] 29)) := below_alloc hB _
      have hUX : Below u2.heap.size u2 ((u2).alloc (.cells #[.string ByteArray.empty, .slice x len0 c] 29)) := below_alloc hU _
      go_wp2_with fail
      refine (makeLoc_any _ _ _ _ _ _ _).mono ?_
      rintro e v1 ⟨rfl, hb⟩
      have H_src' := HX_src.below hb HX_src.lt
      clear HX_src
      have H_src := H_src'
      clear H_src'
      have l_src := H_src.lt
      have c_src_0 : v1.cell? ⟨u2.heap.size, 0, none⟩ = some (.string ByteArray.empty) := H_src.cell 0
      have c_src_1 : v1.cell? ⟨u2.heap.size, 1, none⟩ = some (.slice x len0 c) := H_src.cell 1
      have hB' := below_trans hBX hb
      have hU' := below_trans hUX hb
      clear hB hU hBX hUX hb
      have hB := hB'
      have hU := hU'
      clear hB' hU'
      go_wp2_with fail
      go_ret
      exact ⟨rfl, by first | exact hB | exact below_alloc hB _ | exact below_alloc (below_alloc hB _) _ | exact below_drewN hB _ | exact below_alloc (below_drewN hB _) _⟩
    · have hdA1 : decide ((1 : Int) ≤ a4) = true := decide_eq_true (by omega)
      have hdA2 : decide (a4 ≤ (len0 : Int)) = false := decide_eq_false (by omega)
      have hdD1 : decide ((1 : Int) ≤ a2) = true := decide_eq_true (by omega)
      have hdD2 : decide (a2 ≤ (len0 : Int)) = false := decide_eq_false (by omega)
      have HX_src := Blk.new u2 29 #[.string ByteArray.empty, .slice x len0 c]
      have hBX : Below w.heap.size w ((u2).alloc (.cells #[.string ByteArray.empty, .slice x len0 c] 29)) := below_alloc hB _
      have hUX : Below u2.heap.size u2 ((u2).alloc (.cells #[.string ByteArray.empty, .slice x len0 c] 29)) := below_alloc hU _
      go_wp2_with fail
      refine (makeLoc_any _ _ _ _ _ _ _).mono ?_
      rintro e v1 ⟨rfl, hb⟩
      have H_src' := HX_src.below hb HX_src.lt
      clear HX_src
      have H_src := H_src'
      clear H_src'
      have l_src := H_src.lt
      have c_src_0 : v1.cell? ⟨u2.heap.size, 0, none⟩ = some (.string ByteArray.empty) := H_src.cell 0
      have c_src_1 : v1.cell? ⟨u2.heap.size, 1, none⟩ = some (.slice x len0 c) := H_src.cell 1
      have hB' := below_trans hBX hb
      have hU' := below_trans hUX hb
      clear hB hU hBX hUX hb
      have hB := hB'
      have hU := hU'
      clear hB' hU'
      go_wp2_with fail
      go_ret
      exact ⟨rfl, by first | exact hB | exact below_alloc hB _ | exact below_alloc (below_alloc hB _) _ | exact below_drewN hB _ | exact below_alloc (below_drewN hB _) _⟩
end Go.Proofs.Ytheamgcjnpljfaa.fnLineBeginningAndEndingCompose
