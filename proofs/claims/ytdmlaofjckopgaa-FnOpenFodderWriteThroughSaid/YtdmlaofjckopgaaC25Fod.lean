/- fodBytes, toFodder, sameElem, fodMatches of folder 25. -/
import Derived.Test.YtdmlaofjckopgaaFodMem
import Derived.Test.YtdmlaofjckopgaaChecked
import Derived.Deep.RegionHeld3
namespace Go.Proofs.Ytdmlaofjckopgaa
open Go.ChangeShapes Go.WideShapes Go.ChangeAt Go.RowKit
set_option linter.unusedVariables false

theorem el_at25 {fs : List FEl} {k : Nat} {x : FEl} (h : fs[k]? = some x) : (fs.map FEl.el)[k]? = some x.el := by rw [List.getElem?_map, h]; rfl

set_option maxRecDepth 20000 in
set_option maxHeartbeats 800000 in
theorem fodBytes_any (a0 : Option Addr) (len0 cap0 : Nat) (s0 : List FEl) (w : World) (w0 : IsFEs w a0 len0 cap0 s0) :
    Calls Try.prog 15 #[.slice a0 len0 cap0] w (SomeInt 0 4194304 w) := by
  have hm0 : len0 ≤ 9223372036854775807 := by have := w0.lecap; have := w0.capmax; unfold maxLen at this; omega
  go_enter Try.func15, Try.ntmps15
  go_wp2
  all_goals try (go_ret; exact SomeInt.mk (by decide) (by decide))
  go_loop [3, 4] (fun n i => ∃ (k : Nat) (z : Int), k ≤ len0 ∧ i = .int .i64 k ∧ 0 ≤ z ∧ z ≤ 1048576 ∧ n = .int .i64 z) (fun _ i => len0 - (intOf i).toNat)
  case atStart => exact ⟨0, _, Nat.zero_le _, rfl, by omega, by omega, rfl⟩
  case round =>
    obtain ⟨k, z, hk, rfl, hz0, hz1, rfl⟩ := hrel
    by_cases hlt : k < len0
    · obtain ⟨b, off, x, rfl, hblt, hx, hfe, c0, c1, c2, c3⟩ := w0.at_ hlt
      obtain ⟨ca, clen, ccap, cs, kd, bl, idt⟩ := x
      have hst : IsStrs w ca clen ccap cs := hfe.strs
      dsimp only at c0
      clear hx hfe c1 c2 c3
      have hcm : clen ≤ 9223372036854775807 := by have := hst.lecap; have := hst.capmax; unfold maxLen at this; omega
      go_wp2
      all_goals try (go_ret; exact SomeInt.mk (by decide) (by decide))
      go_loop [3, 6] (fun n i => ∃ (q : Nat) (z : Int), q ≤ clen ∧ i = .int .i64 q ∧ 0 ≤ z ∧ z ≤ 1048576 ∧ n = .int .i64 z) (fun _ i => clen - (intOf i).toNat)
      case atStart => exact ⟨0, _, Nat.zero_le _, rfl, by omega, by omega, rfl⟩
      case round =>
        obtain ⟨q, y, hq, rfl, hy0, hy1, rfl⟩ := hrel
        by_cases hlq : q < clen
        · obtain ⟨b2, off2, s, rfl, hblt2, hs, hsz, hcell⟩ := hst.at_ hlq
          clear hs
          unfold maxLen at hsz
          go_wp2
          all_goals try (go_ret; exact SomeInt.mk (by decide) (by decide))
          all_goals exact ⟨⟨q + 1, _, by omega, by go_num, by omega, by omega, rfl⟩, by simp [intOf]; omega⟩
        · go_wp2
          all_goals exact ⟨⟨k + 1, _, by omega, by go_num, by omega, by omega, rfl⟩, by simp [intOf]; omega⟩
    · go_wp2
      go_ret
      exact SomeInt.mk (by omega) (by omega)

theorem cell_set4d {w : World} {g b o : Nat} {v : Value} (hne : ¬ b = g) (o0 o1 o2 o3 : Nat) (u0 u1 u2 u3 : Value) (h : w.cell? ⟨b, o, none⟩ = some v) : (((((w.setCell ⟨g, o0, none⟩ u0).setCell ⟨g, o1, none⟩ u1).setCell ⟨g, o2, none⟩ u2).setCell ⟨g, o3, none⟩ u3).drew).cell? ⟨b, o, none⟩ = some v := by
  have h2 : ∀ (W : World) (p : Addr), W.drew.cell? p = W.cell? p := fun _ _ => rfl
  rw [h2]
  exact cell_set4 hne o0 o1 o2 o3 u0 u1 u2 u3 h
/-- The nil-ness of the fodder is the given list's. -/
def FodPostN (nl : Bool) (ls : List El) (w : World) (e : Ending) (w' : World) : Prop := ∃ a n c, e = .returned (.slice a n c) ∧ a.isNone = nl ∧ Fodd 9 67 w.heap.size w' (.slice a n c) ls ∧ Below w.heap.size w w'

set_option maxRecDepth 20000 in
set_option maxHeartbeats 1600000 in
theorem toFodder_any (a0 : Option Addr) (len0 cap0 : Nat) (s0 : List FEl) (w : World) (w0 : IsFEs w a0 len0 cap0 s0) (hl : len0 ≤ 1048576) (hup : FEsUpto s0 len0) :
    Calls Try.prog 16 #[.slice a0 len0 cap0] w (FodPostN a0.isNone (s0.map FEl.el) w) := by
  have hmk := make_fod (P := Try.prog) Try.underlying24 (e := 67) (by kernel_rfl) len0 len0 (Nat.le_refl _) (by omega)
  have heq := fun W => Lib.run_eql_slice_nil (P := Try.prog) W 42 64 a0 len0 cap0 0 0 Try.underlying42
  have Hup := Lib.hid hup
  clear hup
  cases ha : a0 with
  | none =>
    subst ha
    obtain rfl : len0 = 0 := w0.nil rfl
    have hs0 : s0 = [] := List.eq_nil_of_length_eq_zero w0.len
    subst hs0
    go_enter Try.func16, Try.ntmps16
    go_wp2
    go_ret
    exact ⟨none, 0, 0, rfl, rfl, fodd_nil _ _ _ _, Below.refl _ _⟩
  | some x =>
    subst ha
    have Hml : Hid ((s0.map FEl.el).length = len0) := by simp [Hid, w0.len]
    go_enter Try.func16, Try.ntmps16
    go_wp2
    go_loopw [4] (fun i wr => ∃ k : Nat, k ≤ len0 ∧ i = .int .i64 k ∧ Hid (Fodd 9 67 w.heap.size wr (.slice (some ⟨w.heap.size, 0, none⟩) len0 len0) (fillE (s0.map FEl.el) k)) ∧ Below w.heap.size w wr) (fun i _ => len0 - (intOf i).toNat)
    case atStart => exact ⟨0, Nat.zero_le _, rfl, by simp only [Hid]; rw [fillE_zero, Hml.out]; exact fodd_made _ _ (by unfold maxLen; omega), below_alloc (Below.refl _ _) _⟩
    case round =>
      obtain ⟨k, hk, rfl, HF, hW⟩ := hrel
      by_cases hlt : k < len0
      · obtain ⟨b, off, y, hx, hblt, hy, hfe, c0, c1, c2, c3⟩ := w0.at_ hlt
        injection hx with hx
        subst hx
        have Hy := Lib.hid hy
        have hcl := Hup.out k y hlt hy
        have Hst : Hid ((fillE (s0.map FEl.el) k).set k y.el = fillE (s0.map FEl.el) (k + 1)) := fillE_step (el_at25 hy)
        obtain ⟨xa, xl, xc, xs, xk, xb, xi⟩ := y
        have hst : IsStrs w xa xl xc xs := hfe.strs
        have Hfe := Lib.hid hfe
        dsimp only at c0 c1 c2 c3 hcl
        have hne : ¬ b = w.heap.size := by omega
        have i0 : (0 : Int) ≤ (k : Int) := by omega
        have i1 : (k : Int) < (len0 : Int) := by omega
        have C0 := Lib.hid c0
        have C1 := Lib.hid c1
        have C2 := Lib.hid c2
        have C3 := Lib.hid c3
        clear hy hfe c0 c1 c2 c3
        have hbw : b < wr.heap.size := Nat.lt_of_lt_of_le hblt hW.size
        have e0 : wr.cell? ⟨b, off + k * 4, none⟩ = some (.slice xa xl xc) := (hW.cell (p := ⟨b, off + k * 4, none⟩) hblt).trans C0.out
        cases xa with
        | none =>
          obtain rfl : xl = 0 := hst.nil rfl
          obtain rfl : xs = [] := List.eq_nil_of_length_eq_zero hst.len
          have e1 : wr.cell? ⟨b, off + k * 4 + 1, none⟩ = some (.int .i64 xk) := (hW.cell (p := ⟨b, off + k * 4 + 1, none⟩) hblt).trans C1.out
          have e2 : wr.cell? ⟨b, off + k * 4 + 2, none⟩ = some (.int .i64 xb) := (hW.cell (p := ⟨b, off + k * 4 + 2, none⟩) hblt).trans C2.out
          have e3 : wr.cell? ⟨b, off + k * 4 + 3, none⟩ = some (.int .i64 xi) := (hW.cell (p := ⟨b, off + k * 4 + 3, none⟩) hblt).trans C3.out
          have Hel : Hid (IsEl 9 wr ⟨none, 0, 0, [], xk, xb, xi⟩) := ⟨⟨strs_nil _, Hfe.out.wk, Hfe.out.wb, Hfe.out.wi⟩, fun a h => by cases h⟩
          obtain ⟨u0, u1, u2, u3, d0, d1, d2, d3, f0, f1, f2, f3⟩ := HF.out.at4 hlt
          go_wp2_with fail
          go_region_held3 (fun w' => w'.cell? ⟨b, off + k * 4 + 1, none⟩ = some (.int .i64 xk) ∧ w'.cell? ⟨b, off + k * 4 + 2, none⟩ = some (.int .i64 xb) ∧ w'.cell? ⟨b, off + k * 4 + 3, none⟩ = some (.int .i64 xi)) (first | exact ⟨e1, e2, e3⟩ | (with_reducible exact ⟨cell_set4d hne _ _ _ _ _ _ _ _ e1, cell_set4d hne _ _ _ _ _ _ _ _ e2, cell_set4d hne _ _ _ _ _ _ _ _ e3⟩) | go_keep) (first | fail)
          rename_i hheld
          clear hheld d0 d1 d2 d3 f0 f1 f2 f3 e0 e1 e2 e3
          go_wp2_with fail
          have P1 := (HF.out.putc (y := FEl.el ⟨none, 0, xc, [], xk, xb, xi⟩) (by decide) hlt Hel.out rfl).keep (Below.drew (Below.refl _ _))
          rw [Hst.out] at P1
          have P2 := Lib.hid P1
          clear P1
          refine ⟨⟨k + 1, by omega, by go_num, P2, ?_⟩, by simp [intOf]; omega⟩
          with_reducible exact Below.drew (below_set4 hW (Nat.le_refl _) _ _ _ _ _ _ _ _)
        | some xad =>
          have hmk2 := make_strs (P := Try.prog) Try.underlying51 (e := 9) (by kernel_rfl) xl (by omega)
          have hnq := fun W => run_neq_slice_nil_any (P := Try.prog) W 51 9 (some xad) xl xc 0 0 Try.underlying51
          obtain ⟨W0, hW0⟩ : ∃ z, z = wr := ⟨_, rfl⟩
          subst hW0
          go_wp2_with fail
          go_loopw [6] (fun i wq => ∃ q : Nat, q ≤ xl ∧ i = .int .i64 q ∧ Hid (Blk wq W0.heap.size 9 (fillA xs q)) ∧ Hid (Below W0.heap.size W0 wq)) (fun i _ => xl - (intOf i).toNat)
          case atStart => exact ⟨0, Nat.zero_le _, rfl, by simp only [Hid]; rw [fillA_zero, hst.len]; exact Blk.new _ _ _, below_alloc (Below.refl _ _) _⟩
          case round =>
            clear hmk2
            obtain ⟨q, hq, rfl, hblk, hWq⟩ := hrel
            have hBq := below_trans hW hWq.out
            have hstq := hst.keep hBq
            have hbq : b < wr.heap.size := Nat.lt_of_lt_of_le hblt hBq.size
            have e0q : wr.cell? ⟨b, off + k * 4, none⟩ = some (.slice (some xad) xl xc) := (hBq.cell (p := ⟨b, off + k * 4, none⟩) hblt).trans C0.out
            have HBq := Lib.hid hBq
            clear hBq
            by_cases hlq : q < xl
            · obtain ⟨b2, off2, s, hxx, hblt2, hs2, hsz, hcell2⟩ := hstq.at_ hlq
              injection hxx with hxx
              subst hxx
              obtain ⟨u, hu⟩ := fillA_get (ss := xs) (k := q) (by rw [hst.len]; exact hlq)
              have hd : wr.cell? ⟨W0.heap.size, q, none⟩ = some (.string u) := (hblk.out.cell q).trans hu
              have hfz := hblk.out.frozen q
              have Hs2 := Lib.hid hs2
              have j0 : (0 : Int) ≤ (q : Int) := by omega
              have j1 : (q : Int) < (xl : Int) := by omega
              clear hu hs2
              go_wp2_with fail
              have HB2 : Hid (Blk (wr.setCell ⟨W0.heap.size, q, none⟩ (.string s)) W0.heap.size 9 (fillA xs (q + 1))) := (fillA_step Hs2.out) ▸ hblk.out.set_ q _
              exact ⟨⟨q + 1, by omega, by go_num, HB2, below_set hWq.out (Nat.le_refl _) _⟩, by simp [intOf]; omega⟩
            · obtain rfl : q = xl := by omega
              have HBk : Hid (Blk wr W0.heap.size 9 (strA xs)) := by simp only [Hid]; rw [← fillA_end, hst.len]; exact hblk.out
              have HFq := Lib.hid (HF.out.keep hWq.out)
              have e1 : wr.cell? ⟨b, off + k * 4 + 1, none⟩ = some (.int .i64 xk) := (HBq.out.cell (p := ⟨b, off + k * 4 + 1, none⟩) hblt).trans C1.out
              have e2 : wr.cell? ⟨b, off + k * 4 + 2, none⟩ = some (.int .i64 xb) := (HBq.out.cell (p := ⟨b, off + k * 4 + 2, none⟩) hblt).trans C2.out
              have e3 : wr.cell? ⟨b, off + k * 4 + 3, none⟩ = some (.int .i64 xi) := (HBq.out.cell (p := ⟨b, off + k * 4 + 3, none⟩) hblt).trans C3.out
              have Hel : Hid (IsEl 9 wr ⟨some ⟨W0.heap.size, 0, none⟩, q, q, xs, xk, xb, xi⟩) := ⟨⟨strs_of_blk (n := q) HBk.out hst.len (by unfold maxLen; omega) hst.sizes, Hfe.out.wk, Hfe.out.wb, Hfe.out.wi⟩, fun a h => by injection h with h; subst h; exact ⟨_, HBk.out⟩⟩
              obtain ⟨u0, u1, u2, u3, d0, d1, d2, d3, f0, f1, f2, f3⟩ := HFq.out.at4 hlt
              clear hblk hWq hstq hst
              go_wp2_with fail
              go_region_held3 (fun w' => w'.cell? ⟨b, off + k * 4 + 1, none⟩ = some (.int .i64 xk) ∧ w'.cell? ⟨b, off + k * 4 + 2, none⟩ = some (.int .i64 xb) ∧ w'.cell? ⟨b, off + k * 4 + 3, none⟩ = some (.int .i64 xi)) (first | exact ⟨e1, e2, e3⟩ | (with_reducible exact ⟨cell_set4d hne _ _ _ _ _ _ _ _ e1, cell_set4d hne _ _ _ _ _ _ _ _ e2, cell_set4d hne _ _ _ _ _ _ _ _ e3⟩) | go_keep) (first | fail)
              rename_i hheld
              clear hheld d0 d1 d2 d3 f0 f1 f2 f3 e0 e1 e2 e3 e0q
              go_wp2_with fail
              have P1 := (HFq.out.putc (y := FEl.el ⟨some xad, q, xc, xs, xk, xb, xi⟩) (by decide) hlt Hel.out rfl).keep (Below.drew (Below.refl _ _))
              rw [Hst.out] at P1
              have P2 := Lib.hid P1
              clear P1
              refine ⟨⟨k + 1, by omega, by go_num, P2, ?_⟩, by simp [intOf]; omega⟩
              with_reducible exact Below.drew (below_set4 HBq.out (Nat.le_refl _) _ _ _ _ _ _ _ _)
      · obtain rfl : k = len0 := by omega
        have HF' : Hid (Fodd 9 67 w.heap.size wr (.slice (some ⟨w.heap.size, 0, none⟩) k k) (s0.map FEl.el)) := by
          have h := HF.out
          rw [show fillE (s0.map FEl.el) k = s0.map FEl.el by have := fillE_end (s0.map FEl.el); rw [Hml.out] at this; exact this] at h
          exact h
        clear HF
        go_wp2
        go_ret
        exact ⟨_, _, _, rfl, rfl, HF'.out, hW⟩
end Go.Proofs.Ytdmlaofjckopgaa
