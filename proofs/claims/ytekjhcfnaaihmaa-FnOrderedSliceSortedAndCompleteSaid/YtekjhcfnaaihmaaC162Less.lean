/- zzLessStr: the lexical order of bytes. -/
import Derived.Test.YtekjhcfnaaihmaaC162Distinct
import Derived.Sort.LotA
import Derived.Test.YtekjhcfnaaihmaaChecked
namespace Go.Proofs.Ytekjhcfnaaihmaa
open Go.RowKit Go.Lib Go.Sort
set_option linter.unusedVariables false

theorem lt_diff : ∀ (k : Nat) (x y : List UInt8) (hx : k < x.length) (hy : k < y.length), x.take k = y.take k → x[k] ≠ y[k] → (x < y ↔ x[k] < y[k])
  | 0, a :: x, b :: y, _, _, _, hne => by
    simp only [List.getElem_cons_zero] at hne ⊢
    simp [List.cons_lt_cons_iff, hne]
  | k + 1, a :: x, b :: y, hx, hy, ht, hne => by
    simp only [List.take_succ_cons, List.cons.injEq] at ht
    obtain ⟨rfl, ht⟩ := ht
    simp only [List.getElem_cons_succ] at hne ⊢
    have ih := lt_diff k x y (by simpa using hx) (by simpa using hy) ht hne
    rw [← ih]
    simp
theorem lt_end : ∀ (x y : List UInt8), (∀ n, n = min x.length y.length → x.take n = y.take n) → (x < y ↔ x.length < y.length)
  | [], [], _ => by simp
  | [], b :: y, _ => by simp
  | a :: x, [], _ => by simp
  | a :: x, b :: y, h => by
    have h1 := h (min x.length y.length + 1) (by simp only [List.length_cons]; omega)
    simp only [List.take_succ_cons, List.cons.injEq] at h1
    obtain ⟨rfl, h2⟩ := h1
    have ih := lt_end x y (fun n hn => by subst hn; exact h2)
    simp only [List.length_cons, Nat.add_lt_add_iff_right]
    rw [← ih]
    simp
theorem take_next (k : Nat) (x y : List UInt8) (hx : k < x.length) (hy : k < y.length) (ht : x.take k = y.take k) (he : x[k] = y[k]) : x.take (k + 1) = y.take (k + 1) := by
  rw [List.take_add_one, List.take_add_one, ht, List.getElem?_eq_getElem hx, List.getElem?_eq_getElem hy, he]

def LessPost (a b : ByteArray) (w : World) (e : Ending) (w' : World) : Prop := e = .returned (.bool (ltStr a.data.toList b.data.toList)) ∧ ∃ m, w' = w.drewN m
/-- The first k bytes are the same. -/
def SameTo (a b : ByteArray) (k : Nat) : Prop := a.data.toList.take k = b.data.toList.take k
theorem SameTo.diff {a b : ByteArray} {k : Nat} (h : SameTo a b k) (ha : k < a.size) (hb : k < b.size) (hne : a[k] ≠ b[k]) : ltStr a.data.toList b.data.toList = decide (a[k].toNat < b[k].toNat) := by
  unfold ltStr
  have hne' : a.data[k]'ha ≠ b.data[k]'hb := hne
  refine decide_eq_decide.2 ((lt_diff k _ _ (by simpa using ha) (by simpa using hb) h (by simpa using hne')).trans ?_)
  simp only [Array.getElem_toList]
  exact UInt8.lt_iff_toNat_lt
theorem SameTo.next {a b : ByteArray} {k : Nat} (h : SameTo a b k) (ha : k < a.size) (hb : k < b.size) (he : a[k] = b[k]) : SameTo a b (k + 1) := take_next k _ _ (by simpa using ha) (by simpa using hb) h (by have he' : a.data[k]'ha = b.data[k]'hb := he; simpa using he')
theorem SameTo.fin {a b : ByteArray} {k : Nat} (h : SameTo a b k) (hk : k = min a.size b.size) : ltStr a.data.toList b.data.toList = decide (a.size < b.size) := by
  unfold ltStr
  refine decide_eq_decide.2 ((lt_end _ _ (fun n hn => ?_)).trans ?_)
  · have : n = k := by rw [hn, hk]; simp
    subst this
    exact h
  · rw [Array.length_toList, Array.length_toList]
    exact Iff.rfl

set_option maxHeartbeats 1600000 in
theorem less_any (a b : ByteArray) (w : World) (ha : a.size ≤ 1048576) (hb : b.size ≤ 1048576) :
    Calls Try.prog 10 #[.string a, .string b] w (LessPost a b w) := by
  go_enter Try.func10, Try.ntmps10
  by_cases hba : (b.size : Int) < (a.size : Int)
  · have hdd : decide ((b.size : Int) < (a.size : Int)) = true := decide_eq_true hba
    go_wp2
    go_loopw [6] (fun i wr => ∃ k m : Nat, k ≤ b.size ∧ i = .int .i64 k ∧ wr = w.drewN m ∧ Hid (SameTo a b k)) (fun i _ => b.size - (intOf i).toNat)
    case atStart => exact ⟨0, 0, Nat.zero_le _, rfl, rfl, by simp [Hid, SameTo]⟩
    case round =>
      obtain ⟨k, m, hk, rfl, hwr, hsm⟩ := hrel
      have Hwr := Lib.hid hwr
      clear hwr
      by_cases hlt : k < b.size
      · have h1 : (k : Int) < (b.size : Int) := by omega
        have h2 : (k : Int) < (a.size : Int) := by omega
        have h1' : k < b.size := by omega
        have h2' : k < a.size := by omega
        have h0 : (0 : Int) ≤ (k : Int) := by omega
        by_cases hne : a[k] = b[k]
        · have hb0 : (((a[k].toNat : Nat) : Int) != ((b[k].toNat : Nat) : Int)) = false := by rw [hne]; simp
          have hnx := Lib.hid (hsm.out.next h2' h1' hne)
          clear hne hsm
          go_wp2_with fail
          go_quiet (fail)
          go_wp2
          exact ⟨⟨k + 1, _, by omega, by go_num, by rw [Hwr.out]; exact drewN_twice _ _ _, hnx.out⟩, by simp [intOf]; omega⟩
        · have hb0 : (((a[k].toNat : Nat) : Int) != ((b[k].toNat : Nat) : Int)) = true := by rw [bne_iff_ne]; exact fun e => hne (UInt8.toNat_inj.1 (by omega))
          have hres := Lib.hid (hsm.out.diff h2' h1' hne)
          clear hne hsm
          go_wp2_with fail
          go_quiet (fail)
          go_wp2
          go_quiet (fail)
          go_wp2
          go_ret
          exact ⟨by rw [hres.out]; rfl, _, by rw [Hwr.out, drewN_twice, drewN_twice]⟩
      · have hres := Lib.hid (hsm.out.fin (show k = min a.size b.size by omega))
        clear hsm
        go_wp2
        go_ret
        exact ⟨by rw [hres.out]; rfl, m, Hwr.out⟩
  · have hdd : decide ((b.size : Int) < (a.size : Int)) = false := decide_eq_false hba
    go_wp2
    go_loopw [6] (fun i wr => ∃ k m : Nat, k ≤ a.size ∧ i = .int .i64 k ∧ wr = w.drewN m ∧ Hid (SameTo a b k)) (fun i _ => a.size - (intOf i).toNat)
    case atStart => exact ⟨0, 0, Nat.zero_le _, rfl, rfl, by simp [Hid, SameTo]⟩
    case round =>
      obtain ⟨k, m, hk, rfl, hwr, hsm⟩ := hrel
      have Hwr := Lib.hid hwr
      clear hwr
      by_cases hlt : k < a.size
      · have h1 : (k : Int) < (b.size : Int) := by omega
        have h2 : (k : Int) < (a.size : Int) := by omega
        have h1' : k < b.size := by omega
        have h2' : k < a.size := by omega
        have h0 : (0 : Int) ≤ (k : Int) := by omega
        by_cases hne : a[k] = b[k]
        · have hb0 : (((a[k].toNat : Nat) : Int) != ((b[k].toNat : Nat) : Int)) = false := by rw [hne]; simp
          have hnx := Lib.hid (hsm.out.next h2' h1' hne)
          clear hne hsm
          go_wp2_with fail
          go_quiet (fail)
          go_wp2
          exact ⟨⟨k + 1, _, by omega, by go_num, by rw [Hwr.out]; exact drewN_twice _ _ _, hnx.out⟩, by simp [intOf]; omega⟩
        · have hb0 : (((a[k].toNat : Nat) : Int) != ((b[k].toNat : Nat) : Int)) = true := by rw [bne_iff_ne]; exact fun e => hne (UInt8.toNat_inj.1 (by omega))
          have hres := Lib.hid (hsm.out.diff h2' h1' hne)
          clear hne hsm
          go_wp2_with fail
          go_quiet (fail)
          go_wp2
          go_quiet (fail)
          go_wp2
          go_ret
          exact ⟨by rw [hres.out]; rfl, _, by rw [Hwr.out, drewN_twice, drewN_twice]⟩
      · have hres := Lib.hid (hsm.out.fin (show k = min a.size b.size by omega))
        clear hsm
        go_wp2
        go_ret
        exact ⟨by rw [hres.out]; rfl, m, Hwr.out⟩
end Go.Proofs.Ytekjhcfnaaihmaa
