/- zzB8BinaryFind over an ascending list: is x in it? -/
import Derived.Test.YtfefapadffmdlaaSortWorld
import Derived.Test.YtfefapadffmdlaaCSortMeth
import Derived.Test.YtfefapadffmdlaaChecked
namespace Go.Proofs.Ytfefapadffmdlaa
open Go.Shelf Go.RowKit Go.Lib Go.Sort
set_option linter.unusedVariables false

/-- All before lo are less than x, none from hi on is. -/
def Cut (ss : List ByteArray) (x : ByteArray) (lo hi : Nat) : Prop :=
  (∀ (i : Nat) (s : ByteArray), i < lo → ss[i]? = some s → ltStr s.data.toList x.data.toList = true) ∧ (∀ (i : Nat) (s : ByteArray), hi ≤ i → ss[i]? = some s → ltStr s.data.toList x.data.toList = false)
theorem Cut.up {ss : List ByteArray} {x s : ByteArray} {lo hi m : Nat} (h : Cut ss x lo hi) (ha : Asc ss) (hm : ss[m]? = some s) (hl : ltStr s.data.toList x.data.toList = true) : Cut ss x (m + 1) hi := by
  refine ⟨fun i t hi' ht => ?_, h.2⟩
  rcases Nat.lt_or_ge i m with h1 | h1
  · have h2 := ha i m t s h1 ht hm
    cases h3 : ltStr t.data.toList x.data.toList
    · have := swo_ltStr.ntrans _ _ _ h2 h3
      rw [hl] at this
      cases this
    · rfl
  · obtain rfl : i = m := by omega
    obtain rfl := Option.some.inj (ht.symm.trans hm)
    exact hl
theorem Cut.down {ss : List ByteArray} {x s : ByteArray} {lo hi m : Nat} (h : Cut ss x lo hi) (ha : Asc ss) (hm : ss[m]? = some s) (hl : ltStr s.data.toList x.data.toList = false) : Cut ss x lo m := by
  refine ⟨h.1, fun i t hi' ht => ?_⟩
  rcases Nat.lt_or_ge m i with h1 | h1
  · exact swo_ltStr.ntrans _ _ _ (ha m i s t h1 hm ht) hl
  · obtain rfl : i = m := by omega
    obtain rfl := Option.some.inj (ht.symm.trans hm)
    exact hl
theorem Cut.miss {ss : List ByteArray} {x : ByteArray} {lo : Nat} (h : Cut ss x lo lo) (hn : ss.length ≤ lo) : x ∉ ss := by
  intro hx
  obtain ⟨i, hi, e⟩ := List.getElem_of_mem hx
  have := h.1 i x (by omega) (by rw [List.getElem?_eq_getElem hi, e])
  rw [swo_ltStr.irrefl] at this
  cases this
theorem Cut.hit {ss : List ByteArray} {x s : ByteArray} {lo : Nat} (h : Cut ss x lo lo) (ha : Asc ss) (hs : ss[lo]? = some s) : (x ∈ ss) ↔ s = x := by
  constructor
  · intro hx
    obtain ⟨i, hi, e⟩ := List.getElem_of_mem hx
    have hix : ss[i]? = some x := by rw [List.getElem?_eq_getElem hi, e]
    rcases Nat.lt_trichotomy i lo with h1 | h1 | h1
    · have := h.1 i x h1 hix
      rw [swo_ltStr.irrefl] at this
      cases this
    · subst h1
      exact Option.some.inj (hs.symm.trans hix)
    · have h2 := ha lo i s x h1 hs hix
      have h3 := h.2 lo s (Nat.le_refl _) hs
      simp only [ltStr, decide_eq_false_iff_not, List.not_lt] at h2 h3
      exact WideShapes.bytes_inj (List.le_antisymm h2 h3)
  · rintro rfl
    exact List.mem_of_getElem? hs

set_option maxHeartbeats 800000 in
theorem find_any (a0 : Option Addr) (n c0 : Nat) (ss : List ByteArray) (x : ByteArray) (w : World) (w0 : IsStrs w a0 n c0 ss) (hl : n ≤ 1048576) (ha : Hid (Asc ss)) :
    Calls Try.prog 23 #[.slice a0 n c0, .string x] w fun e w' => e = .returned (.bool (decide (x ∈ ss))) ∧ w' = w := by
  go_enter Try.func23, Try.ntmps23
  go_wp2
  go_loop [5, 6] (fun l h => ∃ lo hi : Nat, lo ≤ hi ∧ hi ≤ n ∧ l = .int .i64 lo ∧ h = .int .i64 hi ∧ Hid (Cut ss x lo hi)) (fun l h => (intOf h - intOf l).toNat)
  case atStart => exact ⟨0, n, Nat.zero_le _, Nat.le_refl _, rfl, rfl, ⟨fun i s h => by omega, fun i s h hs => by rw [List.getElem?_eq_none (by rw [w0.len]; exact h)] at hs; cases hs⟩⟩
  case round =>
    obtain ⟨lo, hi, h1, h2, rfl, rfl, hc⟩ := hrel
    by_cases hlt : lo < hi
    · have hm : (hi : Int) - lo = ((hi - lo : Nat) : Int) := by omega
      have hq : Int.tdiv ((hi : Int) - lo) 2 = (((hi - lo) / 2 : Nat) : Int) := by rw [hm]; rfl
      have hmid : (lo : Int) + (((hi - lo) / 2 : Nat) : Int) = ((lo + (hi - lo) / 2 : Nat) : Int) := by omega
      have hmn : lo + (hi - lo) / 2 < n := by omega
      obtain ⟨b, off, s, rfl, hblt, hs, hsz, hcell⟩ := w0.at_ hmn
      have hltI : (lo : Int) < (hi : Int) := by omega
      cases hls : ltStr s.data.toList x.data.toList
      · have hbl : Op.bytesLess s.toList x.toList = false := by rw [less_is, Lib.toList_data, Lib.toList_data]; exact hls
        have hc' := Lib.hid (hc.out.down ha.out hs hls)
        clear hs hls hc
        go_wp2
        exact ⟨⟨lo, lo + (hi - lo) / 2, by omega, by omega, rfl, by rw [show (lo : Int) + ((hi - lo : Nat) : Int) / 2 = ((lo + (hi - lo) / 2 : Nat) : Int) by omega], hc'.out⟩, by simp [intOf]; omega⟩
      · have hbl : Op.bytesLess s.toList x.toList = true := by rw [less_is, Lib.toList_data, Lib.toList_data]; exact hls
        have hc' := Lib.hid (hc.out.up ha.out hs hls)
        clear hs hls hc
        go_wp2
        exact ⟨⟨lo + (hi - lo) / 2 + 1, hi, by omega, by omega, by rw [show (lo : Int) + ((hi - lo : Nat) : Int) / 2 + 1 = ((lo + (hi - lo) / 2 + 1 : Nat) : Int) by omega], rfl, hc'.out⟩, by simp [intOf]; omega⟩
    · obtain rfl : lo = hi := by omega
      by_cases hln : lo < n
      · obtain ⟨b, off, s, rfl, hblt, hs, hsz, hcell⟩ := w0.at_ hln
        have hres : Hid (decide (x ∈ ss) = (s.toList == x.toList)) := by
          unfold Hid
          rw [bytes_eq_iff]
          exact decide_eq_decide.2 (hc.out.hit ha.out hs)
        have hlnI : (lo : Int) < (n : Int) := by omega
        have hdn : decide ((lo : Int) < (n : Int)) = true := decide_eq_true hlnI
        clear hs hc
        go_wp2
        go_ret
        exact ⟨by rw [hres.out]; rfl, rfl⟩
      · have hres : Hid (decide (x ∈ ss) = false) := decide_eq_false (hc.out.miss (by rw [w0.len]; omega))
        have hdn : decide ((lo : Int) < (n : Int)) = false := decide_eq_false (by omega)
        clear hc
        go_wp2
        go_ret
        exact ⟨by rw [hres.out]; rfl, rfl⟩
end Go.Proofs.Ytfefapadffmdlaa
