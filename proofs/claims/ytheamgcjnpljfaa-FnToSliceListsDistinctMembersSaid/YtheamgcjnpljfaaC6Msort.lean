/- msortStrings: the strings in ascending order, in new memory. -/
import Derived.Test.YtheamgcjnpljfaaApp
import Derived.Test.YtheamgcjnpljfaaMerge
import Derived.Test.YtheamgcjnpljfaaChecked
namespace Go.Proofs.Ytheamgcjnpljfaa
open Go.ChangeShapes Go.WideShapes Go.ChangeAt Go.RowKit
set_option linter.unusedVariables false

def SortPost (E : TypeId) (w : World) (n : Nat) (ss : List ByteArray) (e : Ending) (w' : World) : Prop :=
  ∃ (g : Nat) (out : List ByteArray), e = .returned (.slice (some ⟨g, 0, none⟩) n n) ∧ out.Perm ss ∧ Asc out ∧ Blk w' g E (strA out) ∧ Below w.heap.size w w' ∧ w.heap.size ≤ g
theorem asc_short {ss : List ByteArray} (h : ss.length ≤ 1) : Asc ss := by
  intro i j s t hij hi hj
  have := (List.getElem?_eq_some_iff.1 hj).1
  omega
theorem IsStrs.drop {w : World} {b off n cap : Nat} {ss : List ByteArray} (h : IsStrs w (some ⟨b, off, none⟩) n cap ss) {k : Nat} (hk : k < n) : IsStrs w (some ⟨b, off + k, none⟩) (n - k) (cap - k) (ss.drop k) := by
  have hl := h.len
  have h1 := h.lecap
  have h2 := h.capmax
  refine ⟨by simp [hl], by omega, by omega, fun i s hs => h.sizes (k + i) s (by rw [List.getElem?_drop] at hs; exact hs), (fun e => by cases e), fun hn => ?_⟩
  obtain ⟨b', off', e, hlt, hc⟩ := h.cells (by omega)
  injection e with e
  injection e with e1 e2
  subst e1 e2
  refine ⟨b, off + k, rfl, hlt, fun i s hs => ?_⟩
  rw [List.getElem?_drop] at hs
  rw [Nat.add_assoc]
  exact hc (k + i) s hs
theorem make_strs0 {P : Program} {t e : TypeId} (ht : P.underlying t = some (.slice e)) (hi : (P.info? e).map (fun i => (i.zero, i.size, i.bytes)) = some (some (.string ByteArray.empty), 1, 16)) (n : Nat) (hn : n ≤ 16777216) (w : World) :
    (Instr.makeSlice t (.int .i64 0) (.int .i64 (n : Int))).run P w = .ok (.slice (some ⟨w.heap.size, 0, none⟩) 0 n) (w.alloc (.cells (emptyA n) e)) := by
  obtain ⟨i, hi0, hz, hs, hb⟩ := info_parts hi
  have hr := run_make (P := P) w t e i _ ht hi0 hz .i64 .i64 0 n (by omega) (by omega) (by rw [hb]; omega) (by omega)
  rw [hs] at hr
  simp only [Int.toNat_natCast, Nat.mul_one] at hr
  rw [hr]
  have : madeCells (Value.string ByteArray.empty).cells n = emptyA n := by
    apply Array.toList_inj.1
    show (madeCells #[Value.string ByteArray.empty] n).toList = _
    rw [toList_madeCells_one]
    simp [emptyA]
  rw [this]
  rfl
theorem blk_at {w : World} {g E k n : Nat} {out : List ByteArray} (h : Blk w g E (strA out)) (hl : out.length = n) (hk : k < n) : ∃ s, out[k]? = some s ∧ w.cell? ⟨g, k, none⟩ = some (.string s) := by
  have hs := List.getElem?_eq_getElem (show k < out.length by omega)
  exact ⟨_, hs, (h.cell k).trans (strA_get hs)⟩

set_option maxHeartbeats 400000 in
theorem msort_small (a0 : Option Addr) (n c0 : Nat) (ss : List ByteArray) (w : World) (w0 : IsStrs w a0 n c0 ss) (h2 : n ≤ 1) : Calls Try.prog 24 #[.slice a0 n c0] w (SortPost 9 w n ss) := by
  have hmk := make_strs (P := Try.prog) Try.underlying22 (e := 9) (by kernel_rfl) n (by omega)
  go_enter Try.func24, Try.ntmps24
  go_wp2_with fail
  go_loopw [4] (fun i wr => ∃ k : Nat, k ≤ n ∧ i = .int .i64 k ∧ Blk wr w.heap.size 9 (fillA ss k) ∧ Below w.heap.size w wr) (fun i _ => n - (intOf i).toNat)
  case atStart => exact ⟨0, Nat.zero_le _, rfl, by rw [fillA_zero, w0.len]; exact Blk.new _ _ _, below_alloc (Below.refl _ _) _⟩
  case round =>
    obtain ⟨k, hk, rfl, hblk, hbel⟩ := hrel
    by_cases hlt : k < n
    · obtain ⟨b, off, s, rfl, hblt, hs, hsz, hcell⟩ := (w0.keep hbel).at_ hlt
      have Hs := Lib.hid hs
      clear hs
      obtain ⟨u, hu⟩ := fillA_get (ss := ss) (k := k) (by rw [w0.len]; exact hlt)
      have hd : wr.cell? ⟨w.heap.size, k, none⟩ = some (.string u) := (hblk.cell k).trans hu
      have hf := hblk.frozen k
      clear hu
      have Hb := Lib.hid hblk
      clear hblk
      go_wp2_with fail
      go_roundw
      case rel => exact ⟨k + 1, by omega, by go_num, (fillA_step Hs.out) ▸ Hb.out.set_ k _, below_set hbel (Nat.le_refl _) _⟩
      case measure => simp [intOf]; omega
    · obtain rfl : k = n := by omega
      have Hb : Hid (Blk wr w.heap.size 9 (strA ss)) := by rw [← fillA_end, w0.len]; exact hblk
      have Hl := Lib.hid w0.len
      clear hblk
      go_wp2_with fail
      go_ret
      exact ⟨_, ss, rfl, List.Perm.refl _, asc_short (by rw [Hl.out]; exact h2), Hb.out, hbel, Nat.le_refl _⟩

set_option maxHeartbeats 4000000 in
theorem msort_any : ∀ (N : Nat) (a0 : Option Addr) (n c0 : Nat) (ss : List ByteArray) (w : World), n ≤ N → IsStrs w a0 n c0 ss → n ≤ 1048576 → Calls Try.prog 24 #[.slice a0 n c0] w (SortPost 9 w n ss) := by
  intro N
  induction N with
  | zero => exact fun a0 n c0 ss w hN w0 hl => msort_small a0 n c0 ss w w0 (by omega)
  | succ N ih =>
    intro a0 n c0 ss w hN w0 hl
    by_cases h2 : n ≤ 1
    · exact msort_small a0 n c0 ss w w0 h2
    · obtain ⟨mid, hmid, hm1, hm2⟩ : ∃ mid : Nat, n / 2 = mid ∧ 0 < mid ∧ mid < n := ⟨n / 2, rfl, by omega, by omega⟩
      obtain ⟨b, off, rfl, hblt, _⟩ := w0.cells (by omega)
      have hmI : (n : Int) / 2 = (mid : Int) := by omega
      have hc1 : mid ≤ c0 := by have := w0.lecap; omega
      have hc2 : ¬ c0 = mid := by have := w0.lecap; omega
      have hl1 := (w0.take (Nat.le_of_lt hm2)).len
      have hl2 := (w0.drop hm2).len
      have hcn : n ≤ c0 := w0.lecap
      have Hmid := Lib.hid hmid
      clear hmid
      go_enter Try.func24, Try.ntmps24
      go_wp2_with fail
      refine (ih _ _ _ (ss.take mid) _ (by omega) (w0.take (Nat.le_of_lt hm2)) (by omega)).mono ?_
      rintro e w1 ⟨gl, l, rfl, hpl, hal, hkl, hb1, hgl⟩
      have w01 := w0.keep hb1
      go_wp2_with fail
      refine (ih _ _ _ (ss.drop mid) _ (by omega) (w01.drop hm2) (by omega)).mono ?_
      rintro e w2 ⟨gr, r, rfl, hpr, har, hkr, hb2, hgr⟩
      have hkl2 := hkl.below hb2 hkl.lt
      have hlt2l := hkl2.lt
      have hlt2r := hkr.lt
      have hll : l.length = mid := hpl.length_eq.trans hl1
      have hrl : r.length = n - mid := hpr.length_eq.trans hl2
      have hB2 := below_trans hb1 hb2
      have Hp : Hid ((l ++ r).Perm ss) := (hpl.append hpr).trans (by rw [List.take_append_drop])
      have hmk := make_strs0 (P := Try.prog) Try.underlying22 (e := 9) (by kernel_rfl) n (by omega)
      have hm0 := Lib.hid (Mrg.start hal har)
      have Hll := Lib.hid hll
      have Hrl := Lib.hid hrl
      clear ih hpl hpr hal har hkl hb1 hb2 w0 w01 hl1 hl2 hll hrl hmI hc1 hc2 hcn
      go_wp2_with fail
      go_loopw [8, 9, 10] (fun v i j wr => ∃ (x y : Nat) (out : List ByteArray), x ≤ mid ∧ y ≤ n - mid ∧ i = .int .i64 x ∧ j = .int .i64 y ∧ v = .slice (some ⟨w2.heap.size, 0, none⟩) (x + y) n ∧ Blk wr w2.heap.size 9 (fillO out n) ∧ Hid (Mrg l r x y out) ∧ Below w2.heap.size w2 wr) (fun _ i j _ => n - (intOf i).toNat - (intOf j).toNat)
      case atStart => exact ⟨0, 0, [], Nat.zero_le _, Nat.zero_le _, rfl, rfl, rfl, by rw [fillO_zero]; exact Blk.new _ _ _, hm0.out, below_alloc (Below.refl _ _) _⟩
      case round =>
        obtain ⟨x, y, out, hx, hy, rfl, rfl, rfl, hB, hM, hW⟩ := hrel
        have hcl := hkl2.below hW hlt2l
        have hcr := hkr.below hW hlt2r
        have hol := hM.out.len
        by_cases hxy : x < mid ∧ y < n - mid
        · obtain ⟨hx1, hy1⟩ := hxy
          obtain ⟨s, hs, hcs⟩ := blk_at hcl Hll.out hx1
          obtain ⟨t, ht, hct⟩ := blk_at hcr Hrl.out hy1
          have hx1I : (x : Int) < (mid : Int) := by omega
          have hy1I : (y : Int) < ((n - mid : Nat) : Int) := by omega
          have hx0 : (0 : Int) ≤ (x : Int) := by omega
          have hy0 : (0 : Int) ≤ (y : Int) := by omega
          by_cases hq : Op.bytesLess t.toList s.toList = true
          · have Hn : Hid (Mrg l r x (y + 1) (out ++ [t])) := hM.out.right ht fun z hz => by
              obtain rfl := Option.some.inj (hs.symm.trans hz)
              rw [less_is', ByteArray.toList_eq, ByteArray.toList_eq] at hq
              exact leB_of_lt hq
            clear hs ht hM
            go_wp2_with fail
            go_quiet (fail)
            go_wp2_with (at_builtin; refine wpList_append_str rfl _ _ 22 rfl 9 Try.underlying22 (by kernel_rfl) w2.heap.size n out t _ _ _ hol.symm rfl ((hB.drewN _).alloc _) rfl (by first | exact new_cell _ _ _ | exact new_cellN _ _ _ _) (by omega) ?_; intro w5 hB5 hW5)
            have hb5 : Below w2.heap.size w2 w5 := below_wrote (below_alloc (below_drewN hW _) _) hW5 (Nat.le_refl _)
            clear hB hW hW5 hcs hct hcl hcr hol
            go_wp2_with fail
            exact ⟨⟨x, y + 1, _, by omega, by omega, rfl, by go_num, rfl, hB5, Hn.out, hb5⟩, by simp [intOf]; omega⟩
          · have hq' : Op.bytesLess t.toList s.toList = false := by simpa using hq
            have Hn : Hid (Mrg l r (x + 1) y (out ++ [s])) := hM.out.left hs fun z hz => by
              obtain rfl := Option.some.inj (ht.symm.trans hz)
              rw [less_is', ByteArray.toList_eq, ByteArray.toList_eq] at hq'
              exact leB_of_not hq'
            clear hs ht hM hq
            go_wp2_with fail
            go_quiet (fail)
            go_wp2_with (at_builtin; refine wpList_append_str rfl _ _ 22 rfl 9 Try.underlying22 (by kernel_rfl) w2.heap.size n out s _ _ _ hol.symm rfl ((hB.drewN _).alloc _) rfl (by first | exact new_cell _ _ _ | exact new_cellN _ _ _ _) (by omega) ?_; intro w5 hB5 hW5)
            have hb5 : Below w2.heap.size w2 w5 := below_wrote (below_alloc (below_drewN hW _) _) hW5 (Nat.le_refl _)
            clear hB hW hW5 hcs hct hcl hcr hol
            go_wp2_with fail
            exact ⟨⟨x + 1, y, _, by omega, by omega, by go_num, rfl, by rw [Nat.add_right_comm], hB5, Hn.out, hb5⟩, by simp [intOf]; omega⟩
        · have Hex : Hid (x < mid → y = n - mid) := fun h => by omega
          clear hxy hcl hcr hol
          by_cases hx1 : x < mid
          all_goals
            first | (have hy1 : ¬ y < n - mid := by have := Hex.out hx1; omega) | skip
            go_wp2_with fail
            go_loopw [8, 9] (fun v i wr => ∃ (x : Nat) (out : List ByteArray), x ≤ mid ∧ i = .int .i64 x ∧ v = .slice (some ⟨w2.heap.size, 0, none⟩) (x + y) n ∧ Blk wr w2.heap.size 9 (fillO out n) ∧ Hid (Mrg l r x y out) ∧ Below w2.heap.size w2 wr ∧ Hid (x < mid → y = n - mid)) (fun _ i _ => mid - (intOf i).toNat)
            case atStart => exact ⟨x, out, hx, rfl, rfl, hB, hM, hW, Hex⟩
            case round =>
              clear hB hM hW Hex hx1
              obtain ⟨x', out', hx', rfl, rfl, hB, hM, hW, Hex⟩ := hrel
              have hcl := hkl2.below hW hlt2l
              have hol := hM.out.len
              by_cases hx1 : x' < mid
              · obtain ⟨s, hs, hcs⟩ := blk_at hcl Hll.out hx1
                have hyn := Hex.out hx1
                have Hn : Hid (Mrg l r (x' + 1) y (out' ++ [s])) := hM.out.left hs fun z hz => by
                  have := (List.getElem?_eq_some_iff.1 hz).1
                  rw [Hrl.out] at this
                  omega
                have Hyn := Lib.hid hyn
                clear hs hM hyn
                go_wp2_with (at_builtin; refine wpList_append_str rfl _ _ 22 rfl 9 Try.underlying22 (by kernel_rfl) w2.heap.size n out' s _ _ _ hol.symm rfl (hB.alloc _) rfl (new_cell _ _ _) (by omega) ?_; intro w5 hB5 hW5)
                have hb5 : Below w2.heap.size w2 w5 := below_wrote (below_alloc hW _) hW5 (Nat.le_refl _)
                clear hB hW hW5 hcs hcl hol
                go_wp2_with fail
                exact ⟨⟨x' + 1, _, by omega, by go_num, by rw [Nat.add_right_comm], hB5, Hn.out, hb5, fun _ => Hyn.out⟩, by simp [intOf]; omega⟩
              · obtain rfl : x' = mid := by omega
                clear hcl hol Hex
                go_wp2_with fail
                go_loopw [8, 10] (fun v j wr => ∃ (y : Nat) (out : List ByteArray), y ≤ n - x' ∧ j = .int .i64 y ∧ v = .slice (some ⟨w2.heap.size, 0, none⟩) (x' + y) n ∧ Blk wr w2.heap.size 9 (fillO out n) ∧ Hid (Mrg l r x' y out) ∧ Below w2.heap.size w2 wr) (fun _ j _ => n - x' - (intOf j).toNat)
                case atStart => exact ⟨y, out', hy, rfl, rfl, hB, hM, hW⟩
                case round =>
                  clear hB hM hW
                  obtain ⟨y', out2, hy', rfl, rfl, hB, hM, hW⟩ := hrel
                  have hcr := hkr.below hW hlt2r
                  have hol := hM.out.len
                  by_cases hy2 : y' < n - x'
                  · obtain ⟨t, ht, hct⟩ := blk_at hcr Hrl.out hy2
                    have Hn : Hid (Mrg l r x' (y' + 1) (out2 ++ [t])) := hM.out.right ht fun z hz => by
                      have := (List.getElem?_eq_some_iff.1 hz).1
                      rw [Hll.out] at this
                      omega
                    clear ht hM
                    go_wp2_with (at_builtin; refine wpList_append_str rfl _ _ 22 rfl 9 Try.underlying22 (by kernel_rfl) w2.heap.size n out2 t _ _ _ hol.symm rfl (hB.alloc _) rfl (new_cell _ _ _) (by omega) ?_; intro w5 hB5 hW5)
                    have hb5 : Below w2.heap.size w2 w5 := below_wrote (below_alloc hW _) hW5 (Nat.le_refl _)
                    clear hB hW hW5 hct hcr hol
                    go_wp2_with fail
                    exact ⟨⟨y' + 1, _, by omega, by go_num, rfl, hB5, Hn.out, hb5⟩, by simp [intOf]; omega⟩
                  · obtain rfl : y' = n - x' := by omega
                    have hM' := hM.out
                    have hfull : out2.length = n := by omega
                    rw [fillO_end hfull] at hB
                    have hlv : x' + (n - x') = n := by omega
                    have Hfin : Hid (out2.Perm (l ++ r) ∧ Asc out2) := by
                      have h9 : Mrg l r l.length r.length out2 := by rw [Hll.out, Hrl.out]; exact hM'
                      exact h9.fin
                    clear hM hM' hcr hol hfull
                    rw [hlv]
                    go_wp2_with fail
                    go_ret
                    exact ⟨_, out2, rfl, Hfin.out.1.trans Hp.out, Hfin.out.2, hB, below_trans hB2 hW, hB2.size⟩
end Go.Proofs.Ytheamgcjnpljfaa
