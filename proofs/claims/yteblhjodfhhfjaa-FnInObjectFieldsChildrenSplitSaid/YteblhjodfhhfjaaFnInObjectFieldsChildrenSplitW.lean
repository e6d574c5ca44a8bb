/- The walk of FnInObjectFieldsChildrenSplit. -/
import Derived.Test.YteblhjodfhhfjaaFnInObjectFieldsChildrenSplitB
import Derived.Test.YteblhjodfhhfjaaC129Copy
import Derived.Test.YteblhjodfhhfjaaC129Same
import Derived.Test.YteblhjodfhhfjaaC129Concat
import Derived.Test.YteblhjodfhhfjaaC129Build
namespace Go.Proofs.Yteblhjodfhhfjaa.fnInObjectFieldsChildrenSplit
open Go.ChangeShapes Go.WideShapes Go.ChangeAt Go.RowKit
set_option linter.unusedVariables false

theorem zzkids (b off k0 n cap : Nat) (fs : List (List Value)) (L : List Value) (w : World) (hoff : off = k0 * 18) (h : Flds w b fs) (hk : k0 + n ≤ fs.length) (hl : n ≤ 65536) (hL : L = ((fs.drop k0).take n).flatMap kids) :
    Calls Try.prog 7 #[.slice (some ⟨b, off, none⟩) n cap] w fun e w' => ∃ g cp m, e = .returned (.slice (some ⟨g, 0, none⟩) m cp) ∧ KSt w g cp m L w' := by
  subst hoff hL
  go_enter Try.func7, Try.ntmps7
  go_wp2_with fail
  refine (kids_any b k0 n cap fs w h hk hl).mono ?_
  rintro e w' ⟨g, cp, m, rfl, hK⟩
  have HK := Lib.hid hK
  clear hK
  go_wp2_with fail
  go_ret
  exact ⟨g, cp, m, rfl, HK.out⟩
theorem split_kids {fs : List (List Value)} {n k : Nat} (hn : fs.length = n) (hk : k ≤ n) : ((fs.drop 0).take n).flatMap kids = ((fs.drop 0).take k).flatMap kids ++ ((fs.drop k).take (n - k)).flatMap kids := by
  rw [List.drop_zero, List.take_of_length_le (by omega), List.take_of_length_le (l := fs.drop k) (by rw [List.length_drop]; omega), ← List.flatMap_append, List.take_append_drop]

set_option maxRecDepth 20000 in
set_option maxHeartbeats 1600000 in
theorem walk (a0 : Option Addr) (len0 cap0 : Nat) (z0 : List Int) (a1 : Int) (w : World) (w0 : IsInts .u8 w a0 len0 cap0 z0) (w1 : (Lit.int .i64 a1).wf = true) :
    Calls Try.prog 3 #[.slice a0 len0 cap0, .int .i64 a1] w fun e w' => e = .returned (.bool true) ∧ Below w.heap.size w w' := by
  have hnil := fun W (x : Addr) (n c : Nat) => Lib.run_eql_slice_nil (P := Try.prog) W 30 35 (some x) n c 0 0 Try.underlying30
  go_enter Try.func3, Try.ntmps3
  go_wp2_with fail
  refine (bytes_any _ _ _ _ _ _ w0).mono ?_
  rintro e w' ⟨r, rfl, hr, rfl⟩
  cases r
  · go_wp2_with fail
    go_ret
    exact ⟨rfl, Below.refl _ _⟩
  have hl := hr rfl
  clear hr w1
  go_wp2_with fail
  all_goals try (go_ret; exact ⟨rfl, Below.refl _ _⟩)
  rename_i h65 _ hrng
  have hl6 : len0 ≤ 65536 := by omega
  obtain ⟨k, rfl⟩ : ∃ k : Nat, a1 = (k : Int) := ⟨a1.toNat, by omega⟩
  have hkn : k ≤ len0 := by omega
  refine (cloneBytes_any _ _ _ _ _ w0 hl).mono ?_
  rintro e w2 ⟨a', c', rfl, -, hb2, hi2⟩
  clear w0
  go_wp2_with fail
  refine (build_any _ _ _ _ _ hi2 hl6).mono ?_
  rintro e w3 ⟨b, v1, v2, fs, rfl, hF, hfl, hb3⟩
  have hB3 := below_trans hb2 hb3
  obtain ⟨L, hL⟩ : ∃ L, L = ((fs.drop 0).take len0).flatMap kids := ⟨_, rfl⟩
  obtain ⟨L1, hL1⟩ : ∃ L1, L1 = ((fs.drop 0).take k).flatMap kids := ⟨_, rfl⟩
  obtain ⟨L2, hL2⟩ : ∃ L2, L2 = ((fs.drop k).take (len0 - k)).flatMap kids := ⟨_, rfl⟩
  have HL : Hid (L = L1 ++ L2) := by show L = L1 ++ L2; rw [hL, hL1, hL2]; exact split_kids hfl hkn
  have Hlen : Hid (L.length ≤ 2 * len0) := by
    have h1 := kids_all_len (fs := (fs.drop 0).take len0) (fun f hf => hF.ok f (List.mem_of_mem_drop (List.mem_of_mem_take hf)))
    have h2 := List.length_take_le len0 (fs.drop 0)
    show L.length ≤ 2 * len0
    rw [hL]; omega
  have HL0 := Lib.hid hL
  have HL1 := Lib.hid hL1
  have HL2 := Lib.hid hL2
  have Hfl := Lib.hid hfl
  clear hb2 hb3 hi2 hL hL1 hL2 hfl
  go_wp2_with fail
  refine (zzkids b 0 0 len0 len0 fs L _ rfl hF (by rw [Hfl.out]; omega) hl6 HL0.out).mono ?_
  rintro e w4 ⟨g4, c4, m4, rfl, hK4⟩
  have hF4 := hF.below hK4.bel
  have HK4 := Lib.hid hK4
  clear hF hK4
  go_wp2_with fail
  refine (zzkids b 0 0 k len0 fs L1 _ rfl hF4 (by rw [Hfl.out]; omega) (by omega) HL1.out).mono ?_
  rintro e w5 ⟨g5, c5, m5, rfl, hK5⟩
  have hF5 := hF4.below hK5.bel
  have HK5 := Lib.hid hK5
  clear hF4 hK5
  rcases Nat.lt_or_ge k len0 with hlt | hge
  · have hne : ¬ len0 = k := by omega
    go_wp2_with fail
    refine (zzkids b (k * 18) k (len0 - k) (len0 - k) fs L2 _ rfl hF5 (by rw [Hfl.out]; omega) (by omega) HL2.out).mono ?_
    rintro e w6 ⟨g6, c6, m6, rfl, hK6⟩
    have HK6 := Lib.hid hK6
    have l4 := HK4.out.len
    have l5 := HK5.out.len
    have l6 := HK6.out.len
    have hsum : m4 = m5 + m6 := by rw [l4, l5, l6, HL.out, List.length_append]
    have hle : m4 ≤ 2 * len0 := by rw [l4]; exact Hlen.out
    have hle' : (m4 : Int) ≤ 2 * (len0 : Int) := by omega
    have HN4 : Hid (Nds w6 w3.heap.size g4 c4 L) := (HK4.out.nds.below HK5.out.bel).below HK6.out.bel
    have HN5 : Hid (Nds w6 w4.heap.size g5 c5 L1) := HK5.out.nds.below HK6.out.bel
    have HN6 := Lib.hid HK6.out.nds
    have HB6 : Hid (Below w.heap.size w w6) := below_trans (below_trans (below_trans hB3 HK4.out.bel) HK5.out.bel) HK6.out.bel
    have Hl4 := Lib.hid l4
    have Hl5 := Lib.hid l5
    have Hl6 := Lib.hid l6
    clear l4 l5 l6 hK6 HK4 HK5 HK6 hB3 hF5
    have Hsum := Lib.hid hsum
    clear hsum
    go_wp2_with fail
    have hb5 : m5 ≤ 524288 ∧ m6 ≤ 524288 := by have := Hsum.out; omega
    refine (concat_any g5 c5 g6 c6 _ _ m5 m6 L1 L2 _ Hl5.out Hl6.out HN5.out HN6.out hb5.1 hb5.2).mono ?_
    rintro e w7 ⟨g7, c7, rfl, hN7, hb7⟩
    rw [← HL.out] at hN7
    rw [← Hsum.out]
    have HN4' := Lib.hid (HN4.out.below hb7)
    have HB7 : Hid (Below w.heap.size w w7) := below_trans HB6.out hb7
    have HN7 := Lib.hid hN7
    clear hN7 hb7 HN4 HN5 HN6 HB6
    go_wp2_with fail
    refine (sameNodes_yes g4 c4 g7 c7 _ _ m4 L _ Hl4.out HN4'.out HN7.out (by omega)).mono ?_
    rintro e w8 ⟨rfl, hb8⟩
    have HB8 : Hid (Below w.heap.size w w8) := below_trans HB7.out hb8
    clear hb8
    go_wp2_with fail
    go_ret
    exact ⟨rfl, HB8.out⟩
  · obtain rfl : k = len0 := by omega
    go_wp2_with fail
    refine (zzkids b 0 0 0 0 fs L2 _ rfl hF5 (by omega) (by omega) (by rw [HL2.out, Nat.sub_self]; rfl)).mono ?_
    rintro e w6 ⟨g6, c6, m6, rfl, hK6⟩
    have HK6 := Lib.hid hK6
    have l4 := HK4.out.len
    have l5 := HK5.out.len
    have l6 := HK6.out.len
    have hsum : m4 = m5 + m6 := by rw [l4, l5, l6, HL.out, List.length_append]
    have hle : m4 ≤ 2 * k := by rw [l4]; exact Hlen.out
    have hle' : (m4 : Int) ≤ 2 * (k : Int) := by omega
    have HN4 : Hid (Nds w6 w3.heap.size g4 c4 L) := (HK4.out.nds.below HK5.out.bel).below HK6.out.bel
    have HN5 : Hid (Nds w6 w4.heap.size g5 c5 L1) := HK5.out.nds.below HK6.out.bel
    have HN6 := Lib.hid HK6.out.nds
    have HB6 : Hid (Below w.heap.size w w6) := below_trans (below_trans (below_trans hB3 HK4.out.bel) HK5.out.bel) HK6.out.bel
    have Hl4 := Lib.hid l4
    have Hl5 := Lib.hid l5
    have Hl6 := Lib.hid l6
    clear l4 l5 l6 hK6 HK4 HK5 HK6 hB3 hF5
    have Hsum := Lib.hid hsum
    clear hsum
    go_wp2_with fail
    have hb5 : m5 ≤ 524288 ∧ m6 ≤ 524288 := by have := Hsum.out; omega
    refine (concat_any g5 c5 g6 c6 _ _ m5 m6 L1 L2 _ Hl5.out Hl6.out HN5.out HN6.out hb5.1 hb5.2).mono ?_
    rintro e w7 ⟨g7, c7, rfl, hN7, hb7⟩
    rw [← HL.out] at hN7
    rw [← Hsum.out]
    have HN4' := Lib.hid (HN4.out.below hb7)
    have HB7 : Hid (Below w.heap.size w w7) := below_trans HB6.out hb7
    have HN7 := Lib.hid hN7
    clear hN7 hb7 HN4 HN5 HN6 HB6
    go_wp2_with fail
    refine (sameNodes_yes g4 c4 g7 c7 _ _ m4 L _ Hl4.out HN4'.out HN7.out (by omega)).mono ?_
    rintro e w8 ⟨rfl, hb8⟩
    have HB8 : Hid (Below w.heap.size w w8) := below_trans HB7.out hb8
    clear hb8
    go_wp2_with fail
    go_ret
    exact ⟨rfl, HB8.out⟩
end Go.Proofs.Yteblhjodfhhfjaa.fnInObjectFieldsChildrenSplit
