/- dedupSorted: each string once, in ascending order, in new memory. -/
import Derived.Test.YtheamgcjnpljfaaApp
import Derived.Test.YtheamgcjnpljfaaMerge
import Derived.Test.YtheamgcjnpljfaaC6Msort
import Derived.Test.YtheamgcjnpljfaaChecked
namespace Go.Proofs.Ytheamgcjnpljfaa
open Go.ChangeShapes Go.WideShapes Go.ChangeAt Go.RowKit
set_option linter.unusedVariables false

def DedPost (w : World) (n : Nat) (ss : List ByteArray) (e : Ending) (w' : World) : Prop :=
  ∃ (g : Nat) (out : List ByteArray), e = .returned (.slice (some ⟨g, 0, none⟩) out.length n) ∧ Asc out ∧ out.Nodup ∧ (∀ x, x ∈ out ↔ x ∈ ss) ∧ IsStrs w' (some ⟨g, 0, none⟩) out.length n out ∧ Below w.heap.size w w'
theorem fillO_at {out : List ByteArray} {n k : Nat} {s : ByteArray} (h : out[k]? = some s) : (fillO out n)[k]? = some (.string s) := by
  have hk := (List.getElem?_eq_some_iff.1 h).1
  unfold fillO
  rw [List.getElem?_toArray, List.getElem?_append_left (by simpa using hk), List.getElem?_map, h]
  rfl
theorem strs_of_fillO {w : World} {g E n : Nat} {out : List ByteArray} (hb : Blk w g E (fillO out n)) (hn : n ≤ maxLen) (hl : out.length ≤ n) (hsz : ∀ (k : Nat) (s : ByteArray), out[k]? = some s → s.size ≤ maxLen) : IsStrs w (some ⟨g, 0, none⟩) out.length n out :=
  ⟨rfl, hl, hn, hsz, (fun h => by cases h), fun _ => ⟨g, 0, rfl, hb.lt, fun k s hs => by rw [Nat.zero_add, hb.cell k]; exact fillO_at hs⟩⟩

set_option maxHeartbeats 1000000 in
theorem dedup_any (a0 : Option Addr) (n c0 : Nat) (l : List ByteArray) (w1 : World) (w0 : IsStrs w1 a0 n c0 l) (hal : Asc l) (hl : n ≤ 1048576) : Calls Try.prog 25 #[.slice a0 n c0] w1 (DedPost w1 n l) := by
  have hmk := make_strs0 (P := Try.prog) Try.underlying22 (e := 9) (by kernel_rfl) n (by omega)
  have Hszl : Hid (∀ s ∈ l, s.size ≤ maxLen) := fun s hs => by
    obtain ⟨i, hi, e⟩ := List.getElem_of_mem hs
    exact w0.sizes i s (by rw [List.getElem?_eq_getElem hi, e])
  have Hll := Lib.hid w0.len
  have hb1 : Below w1.heap.size w1 w1 := Below.refl _ _
  have hd0 := Lib.hid (Ded.start hal)
  clear hal
  go_enter Try.func25, Try.ntmps25
  go_wp2_with fail
  go_loopw [3, 4] (fun v i wr => ∃ (k : Nat) (out : List ByteArray), k ≤ n ∧ i = .int .i64 k ∧ v = .slice (some ⟨w1.heap.size, 0, none⟩) out.length n ∧ Blk wr w1.heap.size 9 (fillO out n) ∧ Hid (Ded l k out) ∧ Below w1.heap.size w1 wr) (fun _ i _ => n - (intOf i).toNat)
  case atStart => exact ⟨0, [], Nat.zero_le _, rfl, rfl, by rw [fillO_zero]; exact Blk.new _ _ _, hd0.out, below_alloc (Below.refl _ _) _⟩
  case round =>
    obtain ⟨k, out, hk, rfl, rfl, hB, hM, hW⟩ := hrel
    clear hd0
    have hole := hM.out.len
    by_cases hlt : k < n
    · obtain ⟨b, off, s, rfl, _, hs, _, hc⟩ := (w0.keep hW).at_ (show k < n by omega)
      have hkI : (k : Int) < (n : Int) := by omega
      have hk0 : (0 : Int) ≤ (k : Int) := by omega
      by_cases hz : k = 0
      · have hz1 : ((k : Int) == 0) = true := by simp [hz]
        have Hn : Hid (Ded l (k + 1) (out ++ [s])) := hM.out.keep hs fun p hp => by omega
        clear hz hs hM
        go_wp2_with fail
        go_quiet (fail)
        go_wp2_with (at_builtin; refine wpList_append_str rfl _ _ 22 rfl 9 Try.underlying22 (by kernel_rfl) w1.heap.size n out s _ _ _ rfl rfl ((hB.drewN _).alloc _) rfl (by first | exact new_cell _ _ _ | exact new_cellN _ _ _ _) (by omega) ?_; intro w5 hB5 hW5)
        have hb5 : Below w1.heap.size w1 w5 := below_wrote (below_alloc (below_drewN hW _) _) hW5 (Nat.le_refl _)
        clear hB hW hW5 hc
        go_wp2_with fail
        exact ⟨⟨k + 1, _, by omega, by go_num, by simp, hB5, Hn.out, hb5⟩, by simp [intOf]; omega⟩
      · have hz1 : ((k : Int) == 0) = false := by simp; omega
        obtain ⟨p, hp⟩ : ∃ p, k = p + 1 := ⟨k - 1, by omega⟩
        obtain ⟨b2, off2, s2, e2, _, hs2, _, hc2⟩ := (w0.keep hW).at_ (show p < n by omega); injection e2 with e2; injection e2 with e2 e3; subst e2 e3
        have h1 : IntKind.i64.wrap ((k : Int) - 1) = (k : Int) - 1 := IntWalk.i64_in _ ⟨by omega, by omega⟩
        have h2 : ((k : Int) - 1).toNat = p := by omega
        have h3 : (0 : Int) ≤ (k : Int) - 1 := by omega
        have h4 : (k : Int) - 1 < (n : Int) := by omega
        have h5 : (1 : Int) ≤ (k : Int) := by omega
        have h6 : 1 ≤ k := by omega
        by_cases hsame : s = s2
        · obtain rfl := hsame
          have hq : (s.toList == s.toList) = true := by simp
          have hq' : (s.toList != s.toList) = false := by simp
          have Hn : Hid (Ded l (k + 1) out) := by subst hp; exact hM.out.skip hs hs2
          clear hp hs hs2 hM hz
          go_wp2_with fail
          go_quiet (fail)
          have hb5 : Below w1.heap.size w1 (wr.drewN nq) := below_drewN hW _
          have hB5 := hB.drewN nq
          clear hB hW h1 h2
          go_wp2_with fail
          exact ⟨⟨k + 1, _, by omega, by go_num, rfl, hB5, Hn.out, hb5⟩, by simp [intOf]; omega⟩
        · have hq : (s.toList == s2.toList) = false := by rw [bytes_eq_iff]; simp [hsame]
          have hq' : (s.toList != s2.toList) = true := by rw [bne, hq]; rfl
          have Hn : Hid (Ded l (k + 1) (out ++ [s])) := hM.out.keep hs fun p' hp' y hy e => by
            obtain rfl : p' = p := by omega
            rw [hs2] at hy
            exact hsame (e.symm.trans (Option.some.inj hy).symm)
          clear hp hs hs2 hM hz hsame
          go_wp2_with fail
          go_quiet (fail)
          clear h1 h2
          go_wp2_with (at_builtin; refine wpList_append_str rfl _ _ 22 rfl 9 Try.underlying22 (by kernel_rfl) w1.heap.size n out s _ _ _ rfl rfl ((hB.drewN _).alloc _) rfl (by first | exact new_cell _ _ _ | exact new_cellN _ _ _ _) (by omega) ?_; intro w5 hB5 hW5)
          have hb5 : Below w1.heap.size w1 w5 := below_wrote (below_alloc (below_drewN hW _) _) hW5 (Nat.le_refl _)
          clear hB hW hW5 hc hc2
          go_wp2_with fail
          exact ⟨⟨k + 1, _, by omega, by go_num, by simp, hB5, Hn.out, hb5⟩, by simp [intOf]; omega⟩
    · have hfin := Lib.hid (hM.out.fin (by rw [Hll.out]; omega))
      have hos := strs_of_fillO hB (by unfold maxLen; omega) (by omega) (fun i s hs => Hszl.out s ((hfin.out.2.2 s).1 (List.mem_of_getElem? hs)))
      clear hM hB hmk
      go_wp2_with fail
      go_ret
      exact ⟨_, out, rfl, hfin.out.1, hfin.out.2.1, hfin.out.2.2, hos, below_trans hb1 hW⟩
end Go.Proofs.Ytheamgcjnpljfaa
