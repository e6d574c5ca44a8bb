/-
  Lemmas of my own over any program: what a slice of strings that came in is to a walk.
-/
import Derived.WalkKit
import Derived.ProofKit
import Derived.SliceStrings
import Derived.Below
import Derived.WalkLawsBesides
import Derived.WalkSpells
import Derived.Lib.Hide
namespace Go.Proofs.YtcmjknimniaggaaFmt
open Go.ChangeShapes Go.WideShapes Go.ChangeAt Go.RowKit

theorem lt_of_cell {w : World} {a : Addr} {v : Value} (h : w.cell? a = some v) : a.block < w.heap.size := by
  rcases Nat.lt_or_ge a.block w.heap.size with h' | h'
  · exact h'
  · simp [World.cell?, Array.getElem?_eq_none h'] at h

/-- The slice value '.slice a n cap' leads to the strings ss, all of them in memory that is there. -/
structure IsStrs (w : World) (a : Option Addr) (n cap : Nat) (ss : List ByteArray) : Prop where
  len : ss.length = n
  lecap : n ≤ cap
  capmax : cap ≤ maxLen
  sizes : ∀ (k : Nat) (s : ByteArray), ss[k]? = some s → s.size ≤ maxLen
  nil : a = none → n = 0
  cells : 0 < n → ∃ b off, a = some ⟨b, off, none⟩ ∧ b < w.heap.size ∧ ∀ (k : Nat) (s : ByteArray), ss[k]? = some s → w.cell? ⟨b, off + k, none⟩ = some (.string s)

theorem IsStrs.keep {w w' : World} {a : Option Addr} {n cap : Nat} {ss : List ByteArray} (h : IsStrs w a n cap ss) (hb : Below w.heap.size w w') : IsStrs w' a n cap ss :=
  ⟨h.len, h.lecap, h.capmax, h.sizes, h.nil, fun hn => by
    obtain ⟨b, off, e, hlt, hc⟩ := h.cells hn
    exact ⟨b, off, e, Nat.lt_of_lt_of_le hlt hb.size, fun k s hs => (hb.cell (p := ⟨b, off + k, none⟩) hlt).trans (hc k s hs)⟩⟩

theorem IsStrs.at_ {w : World} {a : Option Addr} {n cap : Nat} {ss : List ByteArray} (h : IsStrs w a n cap ss) {k : Nat} (hk : k < n) :
    ∃ b off s, a = some ⟨b, off, none⟩ ∧ b < w.heap.size ∧ ss[k]? = some s ∧ s.size ≤ maxLen ∧ w.cell? ⟨b, off + k, none⟩ = some (.string s) := by
  obtain ⟨b, off, e, hlt, hc⟩ := h.cells (by omega)
  have hk' : k < ss.length := by rw [h.len]; exact hk
  have hs := List.getElem?_eq_getElem hk'
  exact ⟨b, off, _, e, hlt, hs, h.sizes k _ hs, hc k _ hs⟩

section
variable {H : Type} {enc : TypeId × Value → H} {P : Program} {w : World}
theorem strs_of_trod {t e : TypeId} {a : Option Addr} {n cap : Nat} {d : DataW H} {p : List MemPlace} (ht : P.underlying t = some (.slice e)) (he : P.underlying e = some .string) (hc : P.cellsOf e = 1)
    (h : DataW.Trod enc P w 0 (fun _ => true) true t (.slice a n cap) d p) : ∃ ss, IsStrs w a n cap ss := by
  obtain ⟨fuel, hf⟩ := h
  rcases open_strings ht he hc hf with ⟨hcs, _⟩ | ⟨x, l, c, ss, hcs, _, hl, hm, hz, _, hcell, hsz⟩
  · simp [Value.cells] at hcs
    obtain ⟨rfl, rfl, rfl⟩ := hcs
    exact ⟨[], rfl, Nat.le_refl _, Nat.zero_le _, fun k s hs => by simp at hs, fun _ => rfl, fun hn => absurd hn (by omega)⟩
  · simp [Value.cells] at hcs
    obtain ⟨rfl, rfl, rfl⟩ := hcs
    have hz' : ss.length = cap := by simpa using hz
    have hget : ∀ (k : Nat) (s : ByteArray), (ss.take n)[k]? = some s → k < n ∧ ss[k]? = some s := by
      intro k s hs
      rw [List.getElem?_take] at hs
      split at hs
      · exact ⟨‹_›, hs⟩
      · cases hs
    refine ⟨ss.take n, by simp; omega, hl, hm, fun k s hs => hsz s (List.mem_of_getElem? (hget k s hs).2), (fun h => by cases h), fun hn => ?_⟩
    obtain ⟨b, off, spot⟩ := x
    have h0 := hcell 0 (by omega)
    have hspot : spot = none := by simpa [Addr.add] using World.cell?_spot h0
    subst hspot
    have hlt : b < w.heap.size := by simpa [Addr.add] using lt_of_cell h0
    refine ⟨b, off, rfl, hlt, fun k s hs => ?_⟩
    obtain ⟨hk, hs'⟩ := hget k s hs
    have := hcell k (by omega)
    rw [List.getD, hs'] at this
    rcases Nat.eq_zero_or_pos k with h0' | h0'
    · subst h0'; simpa [Addr.add] using this
    · simpa [Addr.add, show k ≠ 0 by omega] using this
end
end Go.Proofs.YtcmjknimniaggaaFmt
