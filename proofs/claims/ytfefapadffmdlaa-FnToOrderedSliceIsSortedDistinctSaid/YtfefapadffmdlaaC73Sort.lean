/- zzB8SortedDistinct: each string once, in ascending order, in new memory. -/
import Derived.Test.YtfefapadffmdlaaSortLib
import Derived.Test.YtfefapadffmdlaaChunks
import Derived.Test.YtfefapadffmdlaaSetMore
import Derived.Test.YtfefapadffmdlaaChecked
namespace Go.Proofs.Ytfefapadffmdlaa
open Go.ChangeShapes Go.WideShapes Go.ChangeAt Go.RowKit
set_option linter.unusedVariables false

theorem min_any (a b : Int) (w : World) : Calls Try.prog 13 #[.int .i64 a, .int .i64 b] w fun e w' => e = .returned (.int .i64 (if a < b then a else b)) ∧ w = w' := by
  by_cases h : a < b
  all_goals
    go_enter Try.func13, Try.ntmps13
    go_wp2
    go_ret
    simp

theorem emptyA_str (n : Nat) : emptyA n = strA (List.replicate n ByteArray.empty) := by simp [emptyA, strA]

set_option maxRecDepth 20000 in
set_option maxHeartbeats 8000000 in
theorem sortDed_any (a0 : Option Addr) (n c0 : Nat) (ss : List ByteArray) (w : World) (w0 : IsStrs w a0 n c0 ss) (hl : n ≤ 1048576) : Calls Try.prog 25 #[.slice a0 n c0] w (DedPost w n ss) := by
  have hmk := make_strs (P := Try.prog) Try.underlying23 (e := 9) (by kernel_rfl) n (by omega)
  have hmk0 := make_strs0 (P := Try.prog) Try.underlying23 (e := 9) (by kernel_rfl) n (by omega)
  have Hsz : Hid (∀ s ∈ ss, s.size ≤ maxLen) := sizes_of_strs w0
  have Hl := Lib.hid w0.len
  go_enter Try.func25, Try.ntmps25
  go_wp2_with fail
  go_loopw [6] (fun i wr => ∃ k : Nat, k ≤ n ∧ i = .int .i64 k ∧ Blk wr w.heap.size 9 (fillA ss k) ∧ Blk wr (w.heap.size + 1) 9 (emptyA n) ∧ Below w.heap.size w wr) (fun i _ => n - (intOf i).toNat)
  case atStart => exact ⟨0, Nat.zero_le _, rfl, by rw [fillA_zero, Hl.out]; exact (Blk.new _ _ _).alloc _, Blk.new1 _ _ _ _, below_alloc (below_alloc (Below.refl _ _) _) _⟩
  case round =>
    obtain ⟨k, hk, rfl, hblk, hblk2, hbel⟩ := hrel
    clear hmk
    by_cases hlt : k < n
    · obtain ⟨b, off, s, rfl, hblt, hs, hsz, hcell⟩ := (w0.keep hbel).at_ hlt
      have Hs := Lib.hid hs
      clear hs
      obtain ⟨u, hu⟩ := fillA_get (ss := ss) (k := k) (by rw [Hl.out]; exact hlt)
      have hd : wr.cell? ⟨w.heap.size, k, none⟩ = some (.string u) := (hblk.cell k).trans hu
      have hf := hblk.frozen k
      clear hu
      have Hb := Lib.hid hblk
      have Hb2 := Lib.hid hblk2
      clear hblk hblk2
      go_wp2_with fail
      go_roundw
      case rel => exact ⟨k + 1, by omega, by go_num, (fillA_step Hs.out) ▸ Hb.out.set_ k _, Hb2.out.far (by simp) _, below_set hbel (Nat.le_refl _) _⟩
      case measure => simp [intOf]; omega
    obtain rfl : k = n := by omega
    have hA0 : Blk wr w.heap.size 9 (strA ss) := by rw [← fillA_end, Hl.out]; exact hblk
    rw [emptyA_str] at hblk2
    obtain ⟨w2, rfl⟩ : ∃ w2, w2 = wr := ⟨_, rfl⟩
    clear hblk w0
    go_wp2_with fail
    go_loopw [4, 5, 7] (fun v4 v5 v7 wr => ∃ (g4 g5 wd : Nat) (A B : List ByteArray), v4 = .slice (some ⟨g4, 0, none⟩) k k ∧ v5 = .slice (some ⟨g5, 0, none⟩) k k ∧ v7 = .int .i64 wd ∧ 1 ≤ wd ∧ wd ≤ 2 * k + 1 ∧ g4 ≠ g5 ∧ w.heap.size ≤ g4 ∧ w.heap.size ≤ g5 ∧ Blk wr g4 9 (strA A) ∧ Blk wr g5 9 (strA B) ∧ Hid (A.Perm ss) ∧ Hid (Chunks wd A) ∧ Hid (B.length = k) ∧ Below w.heap.size w wr) (fun _ _ v7 _ => k - (intOf v7).toNat)
    case atStart => exact ⟨_, _, 1, ss, _, rfl, rfl, rfl, Nat.le_refl _, by omega, by omega, Nat.le_refl _, by omega, hA0, hblk2, List.Perm.refl _, Chunks.one _, by simp [Hid], hbel⟩
    case round =>
      clear hA0 hblk2 hbel
      obtain ⟨g4, g5, wd, A, B, rfl, rfl, rfl, hwd1, hwd2, hne, hg4, hg5, hkA, hkB, hpA, hcA, hBl, hW⟩ := hrel
      have HlA : Hid (A.length = k) := hpA.out.length_eq.trans Hl.out
      by_cases hwn : wd < k
      · clear hmk0
        go_wp2_with fail
        go_loopw [8] (fun v8 wr => ∃ (lo : Nat) (pre tail : List ByteArray), v8 = .int .i64 lo ∧ lo ≤ k + 2 * wd ∧ Hid (Round wd lo A pre) ∧ Blk wr g4 9 (strA A) ∧ Blk wr g5 9 (strA (pre ++ tail)) ∧ Hid ((pre ++ tail).length = k) ∧ Below w.heap.size w wr) (fun v8 _ => k + 2 * wd - (intOf v8).toNat)
        case atStart => exact ⟨0, [], B, rfl, by omega, Round.start _ _, hkA, hkB, hBl.out, hW⟩
        case round =>
          clear hkA hkB hBl hW
          obtain ⟨lo, pre, tail, rfl, hlo, hR, hkA, hkB, htl, hW⟩ := hrel
          by_cases hlk : lo < k
          · obtain ⟨mid, hmid⟩ : ∃ mid, mid = lo + min wd (k - lo) := ⟨_, rfl⟩
            obtain ⟨hi, hhi⟩ : ∃ hi, hi = mid + min wd (k - (lo + wd)) := ⟨_, rfl⟩
            have e1 : (if (lo : Int) + (wd : Int) < (k : Int) then (lo : Int) + (wd : Int) else (k : Int)) = (mid : Int) := by split <;> omega
            have e2 : (if (lo : Int) + 2 * (wd : Int) < (k : Int) then (lo : Int) + 2 * (wd : Int) else (k : Int)) = (hi : Int) := by split <;> omega
            have E1 := Lib.hid e1
            have E2 := Lib.hid e2
            have HLl : Hid (((A.drop lo).take wd).length = mid - lo) := by simp only [Hid, List.length_take, List.length_drop, HlA.out]; omega
            have HRl : Hid (((A.drop (lo + wd)).take wd).length = hi - mid) := by simp only [Hid, List.length_take, List.length_drop, HlA.out]; omega
            have Hrr : Hid (mid < hi → mid = lo + wd) := fun h => by omega
            have hm1 : lo < mid := by omega
            have hm2 : mid ≤ hi := by omega
            have hm3 : hi ≤ k := by omega
            have hm4 : mid ≤ lo + wd := by omega
            have hm5 : hi ≤ mid + wd := by omega
            have Hpl : Hid (pre.length = lo) := by have := hR.out.len; rw [HlA.out] at this; simp only [Hid]; omega
            have Has := Lib.hid (hR.out.left hcA.out)
            clear e1 e2 hmid hhi
            go_wp2_with fail
            refine (min_any _ _ _).mono ?_
            rintro e w' ⟨he, rfl⟩
            rw [E1.out] at he
            subst he
            go_wp2_with fail
            refine (min_any _ _ _).mono ?_
            rintro e w' ⟨he, rfl⟩
            rw [E2.out] at he
            subst he
            go_wp2_with fail
            go_loopw [11, 12, 13] (fun v11 v12 v13 wr => ∃ (i j q : Nat) (out tail : List ByteArray), v11 = .int .i64 i ∧ v12 = .int .i64 j ∧ v13 = .int .i64 q ∧ lo ≤ i ∧ i ≤ mid ∧ mid ≤ j ∧ j ≤ hi ∧ q + mid = i + j ∧ Hid (Mrg ((A.drop lo).take wd) ((A.drop (lo + wd)).take wd) (i - lo) (j - mid) out) ∧ Blk wr g4 9 (strA A) ∧ Blk wr g5 9 (strA (pre ++ out ++ tail)) ∧ Hid ((pre ++ out ++ tail).length = k) ∧ Below w.heap.size w wr) (fun _ _ v13 _ => hi - (intOf v13).toNat)
            case atStart => exact ⟨lo, mid, lo, [], tail, rfl, rfl, rfl, Nat.le_refl _, Nat.le_of_lt hm1, Nat.le_refl _, hm2, rfl, by rw [Nat.sub_self, Nat.sub_self]; exact Mrg.start Has.out.1 Has.out.2, hkA, by rw [List.append_nil]; exact hkB, by rw [List.append_nil]; exact htl, hW⟩
            case round =>
              clear hkA hkB htl hW
              obtain ⟨i, j, q, out, tail, rfl, rfl, rfl, hi1, hi2, hj1, hj2, hqe, hM, hkA, hkB, htl, hW⟩ := hrel
              have hol := hM.out.len
              by_cases hqh : q < hi
              · obtain ⟨y, tl, rfl⟩ : ∃ y tl, tail = y :: tl := by
                  cases tail with
                  | nil => have h1 := htl.out; simp only [List.length_append, List.length_nil, Hpl.out, hol] at h1; omega
                  | cons y tl => exact ⟨y, tl, rfl⟩
                have hq : q = pre.length + out.length := by rw [Hpl.out, hol]; omega
                have Hq := Lib.hid hq
                have hcq : wr.cell? ⟨g5, q, none⟩ = some (.string y) := (hkB.cell q).trans (strA_get (by rw [hq, ← List.length_append, List.getElem?_append_right (Nat.le_refl _)]; simp))
                have hfq := hkB.frozen q
                have HtlN : ∀ x, Hid ((pre ++ (out ++ [x]) ++ tl).length = k) := fun x => by have h1 := htl.out; simp only [Hid, List.length_append, List.length_cons, List.length_nil] at h1 ⊢; omega
                have hq0 : (0 : Int) ≤ (q : Int) := by omega
                have hqk : q < k := by omega
                have hi0 : (0 : Int) ≤ (i : Int) := by omega
                have hj0 : (0 : Int) ≤ (j : Int) := by omega
                clear hq hol htl
                by_cases hic : i < mid
                · obtain ⟨x, hx, hcx⟩ := blk_at hkA HlA.out (show i < k by omega)
                  have HxL : Hid (((A.drop lo).take wd)[i - lo]? = some x) := drop_take_get (by rw [show lo + (i - lo) = i by omega]; exact hx) (by omega)
                  have hdi : decide ((i : Int) < (mid : Int)) = true := decide_eq_true (by omega)
                  have hiI : (i : Int) < (k : Int) := by omega
                  have hik : i < k := by omega
                  clear hx
                  by_cases hjc : j < hi
                  · obtain ⟨z, hz, hcz⟩ := blk_at hkA HlA.out (show j < k by omega)
                    have HzR : Hid (((A.drop (lo + wd)).take wd)[j - mid]? = some z) := drop_take_get (by rw [← Hrr.out (by omega), show mid + (j - mid) = j by omega]; exact hz) (by omega)
                    have hdj : decide ((hi : Int) ≤ (j : Int)) = false := decide_eq_false (by omega)
                    have hjI : (j : Int) < (k : Int) := by omega
                    have hjk : j < k := by omega
                    clear hz
                    by_cases hlt : Op.bytesLess x.toList z.toList = true
                    · have Hn : Hid (Mrg ((A.drop lo).take wd) ((A.drop (lo + wd)).take wd) (i + 1 - lo) (j - mid) (out ++ [x])) := by
                        rw [show i + 1 - lo = i - lo + 1 by omega]
                        refine hM.out.left HxL.out fun z' hz' => ?_
                        obtain rfl := Option.some.inj (HzR.out.symm.trans hz')
                        rw [less_is', ByteArray.toList_eq, ByteArray.toList_eq] at hlt
                        exact leB_of_lt hlt
                      clear hM
                      go_wp2_with fail
                      go_quiet (fail)
                      go_wp2_with fail
                      exact ⟨⟨i + 1, j, q + 1, out ++ [x], tl, by go_num, rfl, by go_num, by omega, by omega, by omega, by omega, by omega, Hn.out, (hkA.drewN _).far (p := ⟨g5, q, none⟩) hne _, strA_set Hq.out ▸ (hkB.drewN _).set_ q (.string x), (HtlN x).out, below_set (below_drewN hW _) hg5 _⟩, by simp [intOf]; omega⟩
                    · have hlt' : Op.bytesLess x.toList z.toList = false := by simpa using hlt
                      by_cases hxz : x = z
                      · subst hxz
                        have hee : (x.toList == x.toList) = true := by simp
                        have Hn : Hid (Mrg ((A.drop lo).take wd) ((A.drop (lo + wd)).take wd) (i + 1 - lo) (j - mid) (out ++ [x])) := by
                          rw [show i + 1 - lo = i - lo + 1 by omega]
                          refine hM.out.left HxL.out fun z' hz' => ?_
                          obtain rfl := Option.some.inj (HzR.out.symm.trans hz')
                          exact leB_refl _
                        clear hM hlt
                        go_wp2_with fail
                        go_quiet (fail)
                        go_wp2_with fail
                        exact ⟨⟨i + 1, j, q + 1, out ++ [x], tl, by go_num, rfl, by go_num, by omega, by omega, by omega, by omega, by omega, Hn.out, (hkA.drewN _).far (p := ⟨g5, q, none⟩) hne _, strA_set Hq.out ▸ (hkB.drewN _).set_ q (.string x), (HtlN x).out, below_set (below_drewN hW _) hg5 _⟩, by simp [intOf]; omega⟩
                      · have hee : (x.toList == z.toList) = false := by rw [bytes_eq_iff]; simp [hxz]
                        have Hn : Hid (Mrg ((A.drop lo).take wd) ((A.drop (lo + wd)).take wd) (i - lo) (j + 1 - mid) (out ++ [z])) := by
                          rw [show j + 1 - mid = j - mid + 1 by omega]
                          refine hM.out.right HzR.out fun x' hx' => ?_
                          obtain rfl := Option.some.inj (HxL.out.symm.trans hx')
                          rw [less_is', ByteArray.toList_eq, ByteArray.toList_eq] at hlt'
                          exact leB_of_not hlt'
                        clear hM hlt hxz
                        go_wp2_with fail
                        go_quiet (fail)
                        go_wp2_with fail
                        exact ⟨⟨i, j + 1, q + 1, out ++ [z], tl, rfl, by go_num, by go_num, by omega, by omega, by omega, by omega, by omega, Hn.out, (hkA.drewN _).far (p := ⟨g5, q, none⟩) hne _, strA_set Hq.out ▸ (hkB.drewN _).set_ q (.string z), (HtlN z).out, below_set (below_drewN hW _) hg5 _⟩, by simp [intOf]; omega⟩
                  · have hdj : decide ((hi : Int) ≤ (j : Int)) = true := decide_eq_true (by omega)
                    have hjI : (hi : Int) ≤ (j : Int) := by omega
                    have Hn : Hid (Mrg ((A.drop lo).take wd) ((A.drop (lo + wd)).take wd) (i + 1 - lo) (j - mid) (out ++ [x])) := by
                      rw [show i + 1 - lo = i - lo + 1 by omega]
                      refine hM.out.left HxL.out fun z' hz' => ?_
                      have := (List.getElem?_eq_some_iff.1 hz').1
                      rw [HRl.out] at this
                      omega
                    clear hM
                    go_wp2_with fail
                    go_quiet (fail)
                    go_wp2_with fail
                    exact ⟨⟨i + 1, j, q + 1, out ++ [x], tl, by go_num, rfl, by go_num, by omega, by omega, by omega, by omega, by omega, Hn.out, (hkA.drewN _).far (p := ⟨g5, q, none⟩) hne _, strA_set Hq.out ▸ (hkB.drewN _).set_ q (.string x), (HtlN x).out, below_set (below_drewN hW _) hg5 _⟩, by simp [intOf]; omega⟩
                · obtain ⟨z, hz, hcz⟩ := blk_at hkA HlA.out (show j < k by omega)
                  have HzR : Hid (((A.drop (lo + wd)).take wd)[j - mid]? = some z) := drop_take_get (by rw [← Hrr.out (by omega), show mid + (j - mid) = j by omega]; exact hz) (by omega)
                  have hdi : decide ((i : Int) < (mid : Int)) = false := decide_eq_false (by omega)
                  have hjI : (j : Int) < (k : Int) := by omega
                  have hjk : j < k := by omega
                  have Hn : Hid (Mrg ((A.drop lo).take wd) ((A.drop (lo + wd)).take wd) (i - lo) (j + 1 - mid) (out ++ [z])) := by
                    rw [show j + 1 - mid = j - mid + 1 by omega]
                    refine hM.out.right HzR.out fun x' hx' => ?_
                    have := (List.getElem?_eq_some_iff.1 hx').1
                    rw [HLl.out] at this
                    omega
                  clear hz hM
                  go_wp2_with fail
                  go_quiet (fail)
                  go_wp2_with fail
                  exact ⟨⟨i, j + 1, q + 1, out ++ [z], tl, rfl, by go_num, by go_num, by omega, by omega, by omega, by omega, by omega, Hn.out, (hkA.drewN _).far (p := ⟨g5, q, none⟩) hne _, strA_set Hq.out ▸ (hkB.drewN _).set_ q (.string z), (HtlN z).out, below_set (below_drewN hW _) hg5 _⟩, by simp [intOf]; omega⟩
              · obtain rfl : i = mid := by omega
                obtain rfl : j = hi := by omega
                have HN : Hid (Round wd (lo + 2 * wd) A (pre ++ out)) := by
                  have h9 : Mrg ((A.drop lo).take wd) ((A.drop (lo + wd)).take wd) ((A.drop lo).take wd).length ((A.drop (lo + wd)).take wd).length out := by rw [HLl.out, HRl.out]; exact hM.out
                  exact hR.out.next (by rw [HlA.out]; exact hlk) h9.fin.1 h9.fin.2
                clear hM hol hR hqe
                go_wp2_with fail
                exact ⟨⟨lo + 2 * wd, pre ++ out, tail, by go_num, by omega, HN.out, hkA, hkB, htl.out, hW⟩, by simp [intOf]; omega⟩
          · have Hfin := Lib.hid (hR.out.fin (by rw [HlA.out]; omega))
            have htn : tail = [] := by
              have h1 := htl.out
              rw [List.length_append, Hfin.out.2.2, HlA.out] at h1
              exact List.eq_nil_of_length_eq_zero (by omega)
            subst htn
            rw [List.append_nil] at hkB
            have Hch : Hid (Chunks (wd * 2) pre) := by rw [Nat.mul_comm]; exact Hfin.out.2.1
            clear hR htl
            go_wp2_with fail
            exact ⟨⟨g5, g4, wd * 2, pre, A, rfl, rfl, by go_num, by omega, by omega, hne.symm, hg5, hg4, hkB, hkA, Hfin.out.1.trans hpA.out, Hch.out, HlA.out, hW⟩, by simp [intOf]; omega⟩
      · have Hall : Hid (Asc A) := hcA.out.all (by rw [HlA.out]; omega)
        have Hmem : Hid (∀ x, x ∈ A ↔ x ∈ ss) := fun x => hpA.out.mem_iff
        have hd0 := Lib.hid (Ded.start Hall.out)
        have hltl := hkA.lt
        obtain ⟨w1, rfl⟩ : ∃ w1, w1 = wr := ⟨_, rfl⟩
        clear hkB hBl hcA hpA
        go_wp2_with fail
        go_loopw [14, 15] (fun v i wr => ∃ (p : Nat) (out : List ByteArray), p ≤ k ∧ i = .int .i64 p ∧ v = .slice (some ⟨w1.heap.size, 0, none⟩) out.length k ∧ Blk wr w1.heap.size 9 (fillO out k) ∧ Hid (Ded A p out) ∧ Below w1.heap.size w1 wr) (fun _ i _ => k - (intOf i).toNat)
        case atStart => exact ⟨0, [], Nat.zero_le _, rfl, rfl, by rw [fillO_zero]; exact Blk.new _ _ _, hd0.out, below_alloc (Below.refl _ _) _⟩
        case round =>
          obtain ⟨p, out, hp, rfl, rfl, hB, hM, hW1⟩ := hrel
          clear hd0 hmk0
          have hole := hM.out.len
          by_cases hlt : p < k
          · obtain ⟨s, hs, hc⟩ := blk_at (hkA.below hW1 hltl) HlA.out hlt
            have hkI : (p : Int) < (k : Int) := by omega
            have hk0 : (0 : Int) ≤ (p : Int) := by omega
            by_cases hz : p = 0
            · have hz1 : ((p : Int) == 0) = true := by simp [hz]
              have Hn : Hid (Ded A (p + 1) (out ++ [s])) := hM.out.keep hs fun p' hp' => by omega
              clear hz hs hM
              go_wp2_with fail
              go_quiet (fail)
              go_wp2_with (at_builtin; refine wpList_append_str rfl _ _ 23 rfl 9 Try.underlying23 (by kernel_rfl) w1.heap.size k out s _ _ _ rfl rfl ((hB.drewN _).alloc _) rfl (by first | exact new_cell _ _ _ | exact new_cellN _ _ _ _) (by omega) ?_; intro w5 hB5 hW5)
              have hb5 : Below w1.heap.size w1 w5 := below_wrote (below_alloc (below_drewN hW1 _) _) hW5 (Nat.le_refl _)
              clear hB hW1 hW5 hc
              go_wp2_with fail
              exact ⟨⟨p + 1, _, by omega, by go_num, by simp, hB5, Hn.out, hb5⟩, by simp [intOf]; omega⟩
            · have hz1 : ((p : Int) == 0) = false := by simp; omega
              obtain ⟨r, hr⟩ : ∃ r, p = r + 1 := ⟨p - 1, by omega⟩
              obtain ⟨s2, hs2, hc2⟩ := blk_at (hkA.below hW1 hltl) HlA.out (show r < k by omega)
              have h1 : IntKind.i64.wrap ((p : Int) - 1) = (p : Int) - 1 := IntWalk.i64_in _ ⟨by omega, by omega⟩
              have h2 : ((p : Int) - 1).toNat = r := by omega
              have h3 : (0 : Int) ≤ (p : Int) - 1 := by omega
              have h4 : (p : Int) - 1 < (k : Int) := by omega
              have h5 : (1 : Int) ≤ (p : Int) := by omega
              have h6 : 1 ≤ p := by omega
              by_cases hsame : s = s2
              · obtain rfl := hsame
                have hq : (s.toList == s.toList) = true := by simp
                have hq' : (s.toList != s.toList) = false := by simp
                have Hn : Hid (Ded A (p + 1) out) := by subst hr; exact hM.out.skip hs hs2
                clear hr hs hs2 hM hz
                go_wp2_with fail
                go_quiet (fail)
                have hb5 : Below w1.heap.size w1 (wr.drewN nq) := below_drewN hW1 _
                have hB5 := hB.drewN nq
                clear hB hW1 h1 h2
                go_wp2_with fail
                exact ⟨⟨p + 1, _, by omega, by go_num, rfl, hB5, Hn.out, hb5⟩, by simp [intOf]; omega⟩
              · have hq : (s.toList == s2.toList) = false := by rw [bytes_eq_iff]; simp [hsame]
                have hq' : (s.toList != s2.toList) = true := by rw [bne, hq]; rfl
                have Hn : Hid (Ded A (p + 1) (out ++ [s])) := hM.out.keep hs fun p' hp' y hy e => by
                  obtain rfl : p' = r := by omega
                  rw [hs2] at hy
                  exact hsame (e.symm.trans (Option.some.inj hy).symm)
                clear hr hs hs2 hM hz hsame
                go_wp2_with fail
                go_quiet (fail)
                clear h1 h2
                go_wp2_with (at_builtin; refine wpList_append_str rfl _ _ 23 rfl 9 Try.underlying23 (by kernel_rfl) w1.heap.size k out s _ _ _ rfl rfl ((hB.drewN _).alloc _) rfl (by first | exact new_cell _ _ _ | exact new_cellN _ _ _ _) (by omega) ?_; intro w5 hB5 hW5)
                have hb5 : Below w1.heap.size w1 w5 := below_wrote (below_alloc (below_drewN hW1 _) _) hW5 (Nat.le_refl _)
                clear hB hW1 hW5 hc hc2
                go_wp2_with fail
                exact ⟨⟨p + 1, _, by omega, by go_num, by simp, hB5, Hn.out, hb5⟩, by simp [intOf]; omega⟩
          · have hfin := Lib.hid (hM.out.fin (by rw [HlA.out]; omega))
            have hos := strs_of_fillO hB (by unfold maxLen; omega) (by omega) (fun i s hs => Hsz.out s ((Hmem.out s).1 ((hfin.out.2.2 s).1 (List.mem_of_getElem? hs))))
            clear hM hB
            go_wp2_with fail
            go_ret
            exact ⟨_, out, rfl, hfin.out.1, hfin.out.2.1, fun x => (hfin.out.2.2 x).trans (Hmem.out x), hos, below_trans hW hW1⟩
end Go.Proofs.Ytfefapadffmdlaa
