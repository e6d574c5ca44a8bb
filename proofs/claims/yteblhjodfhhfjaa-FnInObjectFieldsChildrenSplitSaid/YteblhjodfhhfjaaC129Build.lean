/- zzBuildFields: as many fields as there are bytes; each field's cells are nil or nodes. -/
import Derived.Test.YteblhjodfhhfjaaC129State
namespace Go.Proofs.Yteblhjodfhhfjaa
open Go.ChangeShapes Go.WideShapes Go.ChangeAt Go.RowKit
set_option linter.unusedVariables false

def fld0 : List Value := [.pointer none, .pointer none, .slice none 0 0, .slice none 0 0, .slice none 0 0, .slice none 0 0, .nilIface, .nilIface, .nilIface, .pointer none, .string ⟨#[]⟩, .int .i64 0, .int .i64 0, .int .i64 0, .int .i64 0, .int .i64 0, .int .i64 0, .bool false]
theorem fld0_ok : FldOk fld0 := ⟨rfl, .inl rfl, ⟨_, rfl, .inl rfl⟩, ⟨_, rfl, .inl rfl⟩, by decide⟩
theorem made_flat (n : Nat) : madeCells fld0.toArray (n * 18) = (List.replicate n fld0).flatten.toArray := by
  have hl : ∀ f ∈ List.replicate n fld0, f.length = 18 := fun f hf => by rw [List.eq_of_mem_replicate hf]; rfl
  apply Array.toList_inj.1
  apply List.ext_getElem?
  intro j
  by_cases hj : j < n * 18
  · have hg := flat_get hl (k := j / 18) (f := fld0) (by rw [List.getElem?_replicate, if_pos (by omega)]) (j % 18) (Nat.mod_lt _ (by omega))
    rw [show j / 18 * 18 + j % 18 = j by omega] at hg
    rw [List.toList_toArray, hg]
    have hm : j % 18 < 18 := Nat.mod_lt _ (by omega)
    have h18 : fld0.length = 18 := rfl
    simp only [madeCells, Array.toList_map, Array.toList_range, List.getElem?_map, List.size_toArray, h18]
    rw [List.getElem?_range hj]
    simp only [Option.map_some]
    rw [List.getElem?_eq_getElem (by omega)]
    congr 1
    rw [getElem!_pos _ _ (by simp [h18]; omega)]
    simp
  · rw [List.getElem?_eq_none (by simp [size_madeCells]; omega), List.getElem?_eq_none (by rw [List.toList_toArray, flat_len hl]; simp; omega)]
theorem make_fields {P : Program} {t : TypeId} (ht : P.underlying t = some (.slice 49)) (hi : (P.info? 49).map (fun i => (i.zero, i.size, i.bytes)) = some (some (.agg fld0.toArray), 18, 240)) (n : Nat) (hn : n ≤ 65536) (w : World) :
    (Instr.makeSlice t (.int .i64 (n : Int)) (.int .i64 (n : Int))).run P w = .ok (.slice (some ⟨w.heap.size, 0, none⟩) n n) (w.alloc (.cells (List.replicate n fld0).flatten.toArray 49)) := by
  obtain ⟨i, hi0, hz, hs, hb⟩ := info_parts hi
  have hr := run_make (P := P) w t 49 i _ ht hi0 hz .i64 .i64 n n (by omega) (by omega) (by rw [hb]; omega) (by omega)
  rw [hs] at hr
  simp only [Int.toNat_natCast] at hr
  rw [hr, ← made_flat]
  rfl
theorem flds_new (w : World) (n : Nat) : ∃ fs, Flds (w.alloc (.cells (List.replicate n fld0).flatten.toArray 49)) w.heap.size fs ∧ fs.length = n :=
  ⟨List.replicate n fld0, ⟨Blk.new _ _ _, fun f hf => by rw [List.eq_of_mem_replicate hf]; exact fld0_ok⟩, by simp⟩

theorem bst_start (w : World) (n : Nat) (hn : n ≤ 65536) : BSt w n w.heap.size (w.heap.size + 1) 0 0 (w.heap.size + 2) 0 0
    (((w.alloc (.cells (List.replicate n fld0).flatten.toArray 49)).alloc (.cells (List.replicate 0 Value.nilIface).toArray 35)).alloc (.cells (List.replicate 0 Value.nilIface).toArray 35)) := by
  have b1 := below_alloc (Below.refl w.heap.size w) (.cells (List.replicate n fld0).flatten.toArray 49)
  have b2 := below_alloc b1 (.cells (List.replicate 0 Value.nilIface).toArray 35)
  have b3 := below_alloc b2 (.cells (List.replicate 0 Value.nilIface).toArray 35)
  have n1 := nds_new (w.alloc (.cells (List.replicate n fld0).flatten.toArray 49)) 0 w.heap.size (by simp) (by unfold maxLen; omega)
  have n2 := nds_new ((w.alloc (.cells (List.replicate n fld0).flatten.toArray 49)).alloc (.cells (List.replicate 0 Value.nilIface).toArray 35)) 0 w.heap.size (by simp; omega) (by unfold maxLen; omega)
  obtain ⟨fs, hf, hl⟩ := flds_new w n
  refine ⟨⟨[], rfl, ?_, b3⟩, ⟨[], rfl, ?_, b3⟩, ⟨fs, (hf.below (below_alloc (Below.refl _ _) _)).below (below_alloc (Below.refl _ _) _), hl⟩, by omega, by omega, by omega, Nat.le_refl _⟩
  · have := n1.below (below_alloc (Below.refl _ _) (.cells (List.replicate 0 Value.nilIface).toArray 35))
    simpa using this
  · simpa using n2

set_option maxRecDepth 20000 in
set_option maxHeartbeats 4000000 in
theorem build_any (a0 : Option Addr) (len0 cap0 : Nat) (z0 : List Int) (w : World) (w0 : IsInts .u8 w a0 len0 cap0 z0) (hl : len0 ≤ 65536) :
    Calls Try.prog 6 #[.slice a0 len0 cap0] w fun e w' => ∃ b v1 v2 fs, e = .returned (.tuple #[.slice (some ⟨b, 0, none⟩) len0 len0, v1, v2]) ∧ Flds w' b fs ∧ fs.length = len0 ∧ Below w.heap.size w w' := by
  have hmk := make_fields (P := Try.prog) Try.underlying26 (by kernel_rfl) len0 hl
  have hst := Lib.hid (bst_start w len0 hl)
  go_enter Try.func6, Try.ntmps6
  go_wp2_with fail
  go_loopw [6, 7, 8] (fun v1 v2 i wr => ∃ k g1 c1 m1 g2 c2 m2 : Nat, k ≤ len0 ∧ m1 ≤ k ∧ m2 ≤ 2 * k ∧ v1 = .slice (some ⟨g1, 0, none⟩) m1 c1 ∧ v2 = .slice (some ⟨g2, 0, none⟩) m2 c2 ∧ i = .int .i64 k ∧ Hid (BSt w len0 w.heap.size g1 c1 m1 g2 c2 m2 wr)) (fun _ _ i _ => len0 - (intOf i).toNat)
  case atStart => exact ⟨0, _, _, _, _, _, _, Nat.zero_le _, Nat.zero_le _, Nat.zero_le _, rfl, rfl, rfl, hst⟩
  case round =>
    clear hst hmk
    obtain ⟨k, g1, c1, m1, g2, c2, m2, hk, hm1, hm2, rfl, rfl, rfl, HB⟩ := hrel
    by_cases hlt : k < len0
    · obtain ⟨b, off, x, rfl, hblt, hx, hwf, hcell⟩ := (w0.keep HB.out.bel).at_ hlt
      clear hx w0
      go_wp2_with (first | (go_at_call 10; refine (leafv_any _).mono ?_; rintro e wn ⟨an, rfl, hbn⟩; replace HB := Lib.hid (HB.out.keep hbn); clear hbn) | (with_reducible refine at_store (t' := 37) ?_; refine wpList_put (k := k) (j := 0) rfl _ _ _ rfl rfl (by kernel_rfl) (by first | exact HB.out | exact HB.out.keep (below_alloc (Below.refl _ _) _)) _ hlt (by decide) rfl rfl rfl (fun h => by first | exact ⟨_, rfl⟩ | cases h) (fun h => by first | exact ⟨_, rfl⟩ | (rcases h with h | h <;> cases h)) ?_; intro wn HBn; replace HB := Lib.hid HBn; clear HBn) | (with_reducible refine at_store ?_; refine wpList_put (k := k) rfl _ _ _ rfl rfl (by kernel_rfl) (by first | exact HB.out | exact HB.out.keep (below_alloc (Below.refl _ _) _)) _ hlt (by decide) rfl rfl rfl (fun h => by first | exact ⟨_, rfl⟩ | cases h) (fun h => by first | exact ⟨_, rfl⟩ | (rcases h with h | h <;> cases h)) ?_; intro wn HBn; replace HB := Lib.hid HBn; clear HBn) | (at_builtin; refine wpList_app1 rfl _ _ 27 rfl Try.underlying27 (by kernel_rfl) _ HB.out (by first | exact IsNode.leaf _ | exact IsNode.fn _) _ rfl rfl (by omega) ?_; intro gn cn wn HBn; replace HB := Lib.hid HBn; clear HBn) | (at_builtin; refine wpList_app2 rfl _ _ 27 rfl Try.underlying27 (by kernel_rfl) _ HB.out (by first | exact IsNode.leaf _ | exact IsNode.fn _) _ rfl rfl (by omega) ?_; intro gn cn wn HBn; replace HB := Lib.hid HBn; clear HBn))
      all_goals exact ⟨⟨k + 1, _, _, _, _, _, _, by omega, by omega, by omega, rfl, rfl, by go_num, HB⟩, by simp [intOf]; omega⟩
    · obtain rfl : k = len0 := by omega
      obtain ⟨fs, hfs, hfl⟩ := HB.out.f
      have Hfs := Lib.hid hfs
      have hbel := HB.out.bel
      clear hfs
      go_wp2_with fail
      go_ret3
      exact ⟨_, _, _, fs, rfl, Hfs.out, hfl, hbel⟩
end Go.Proofs.Yteblhjodfhhfjaa
