/- What a slice of numbers that came in is to a walk; a slice of numbers that the call makes and fills. Over any program. -/
import Derived.Test.YteblhjodfhhfjaaCommon
namespace Go.Proofs.Yteblhjodfhhfjaa
open Go.ChangeShapes Go.WideShapes Go.ChangeAt Go.RowKit
set_option linter.unusedVariables false

structure IsInts (q : IntKind) (w : World) (a : Option Addr) (n cap : Nat) (z : List Int) : Prop where
  len : z.length = n
  lecap : n ≤ cap
  capmax : cap ≤ maxLen
  wf : ∀ (k : Nat) (x : Int), z[k]? = some x → (Lit.int q x).wf = true
  nil : a = none → n = 0
  cells : 0 < n → ∃ b off, a = some ⟨b, off, none⟩ ∧ b < w.heap.size ∧ ∀ (k : Nat) (x : Int), z[k]? = some x → w.cell? ⟨b, off + k, none⟩ = some (.int q x)
theorem IsInts.keep {q : IntKind} {w w' : World} {a : Option Addr} {n cap : Nat} {z : List Int} (h : IsInts q w a n cap z) (hb : Below w.heap.size w w') : IsInts q w' a n cap z :=
  ⟨h.len, h.lecap, h.capmax, h.wf, h.nil, fun hn => by
    obtain ⟨b, off, e, hlt, hc⟩ := h.cells hn
    exact ⟨b, off, e, Nat.lt_of_lt_of_le hlt hb.size, fun k s hs => (hb.cell (p := ⟨b, off + k, none⟩) hlt).trans (hc k s hs)⟩⟩
theorem IsInts.at_ {q : IntKind} {w : World} {a : Option Addr} {n cap : Nat} {z : List Int} (h : IsInts q w a n cap z) {k : Nat} (hk : k < n) :
    ∃ b off x, a = some ⟨b, off, none⟩ ∧ b < w.heap.size ∧ z[k]? = some x ∧ (Lit.int q x).wf = true ∧ w.cell? ⟨b, off + k, none⟩ = some (.int q x) := by
  obtain ⟨b, off, e, hlt, hc⟩ := h.cells (by omega)
  have hs := List.getElem?_eq_getElem (show k < z.length by rw [h.len]; exact hk)
  exact ⟨b, off, _, e, hlt, hs, h.wf k _ hs, hc k _ hs⟩
section
variable {H : Type} {enc : TypeId × Value → H} {P : Program} {w : World}
theorem ints_of_trod {t e : TypeId} {q : IntKind} {a : Option Addr} {n cap : Nat} {d : DataW H} {p : List MemPlace} (ht : P.underlying t = some (.slice e)) (he : P.underlying e = some (.int q)) (hc : P.cellsOf e = 1)
    (h : DataW.Trod enc P w 0 (fun _ => true) true t (.slice a n cap) d p) : ∃ z, IsInts q w a n cap z := by
  obtain ⟨fuel, hf⟩ := h
  rcases open_ints ht he hc hf with ⟨hcs, _⟩ | ⟨x, l, c, zs, hcs, _, hl, hm, hz, _, hcell, hwf⟩
  · simp [Value.cells] at hcs
    obtain ⟨rfl, rfl, rfl⟩ := hcs
    exact ⟨[], rfl, Nat.le_refl _, Nat.zero_le _, (fun k s hs => by simp at hs), (fun _ => rfl), fun hn => absurd hn (by omega)⟩
  · simp [Value.cells] at hcs
    obtain ⟨rfl, rfl, rfl⟩ := hcs
    have hz' : zs.length = cap := by simpa using hz
    have hget : ∀ (k : Nat) (s : Int), (zs.take n)[k]? = some s → k < n ∧ zs[k]? = some s := by
      intro k s hs
      rw [List.getElem?_take] at hs
      split at hs
      · exact ⟨‹_›, hs⟩
      · cases hs
    refine ⟨zs.take n, by simp; omega, hl, hm, fun k s hs => hwf s (List.mem_of_getElem? (hget k s hs).2), (fun h => by cases h), fun hn => ?_⟩
    obtain ⟨b, off, spot⟩ := x
    have h0 := hcell 0 (by omega)
    have hspot : spot = none := by simpa [Addr.add] using World.cell?_spot h0
    subst hspot
    have hlt : b < w.heap.size := by simpa [Addr.add] using lt_of_cell h0
    refine ⟨b, off, rfl, hlt, fun k s hs => ?_⟩
    obtain ⟨hk, hs'⟩ := hget k s hs
    have := hcell k (by omega)
    rw [List.getD, hs'] at this
    rcases Nat.eq_zero_or_pos k with h0' | h0'
    · subst h0'; simpa [Addr.add] using this
    · simpa [Addr.add, show k ≠ 0 by omega] using this
end
/-- n numbers: the first k of z laid, the rest still 0. -/
def fillI (q : IntKind) (z : List Int) (k : Nat) : Array Value := ((z.map (Value.int q)).take k ++ List.replicate (z.length - k) (Value.int q 0)).toArray
def intA (q : IntKind) (z : List Int) : Array Value := (z.map (Value.int q)).toArray
theorem fillI_zero (q : IntKind) (z : List Int) : fillI q z 0 = (List.replicate z.length (Value.int q 0)).toArray := by simp [fillI]
theorem fillI_end (q : IntKind) (z : List Int) : fillI q z z.length = intA q z := by
  unfold fillI intA
  rw [Nat.sub_self, List.take_of_length_le (by simp)]
  simp
theorem fillI_step {q : IntKind} {z : List Int} {k : Nat} {s : Int} (h : z[k]? = some s) : (fillI q z k).setIfInBounds k (.int q s) = fillI q z (k + 1) := by
  have hk : k < z.length := (List.getElem?_eq_some_iff.1 h).1
  have hs : (z.map (Value.int q))[k]? = some (.int q s) := by rw [List.getElem?_map, h]; rfl
  unfold fillI
  rw [List.setIfInBounds_toArray]
  congr 1
  obtain ⟨m, hm⟩ : ∃ m, z.length - k = m + 1 := ⟨z.length - k - 1, by omega⟩
  rw [hm, show z.length - (k + 1) = m by omega, List.take_add_one, hs, List.replicate_succ, List.set_append_right _ _ (by simp; omega)]
  simp [show k - min k z.length = 0 by omega]
theorem fillI_get {q : IntKind} {z : List Int} {k : Nat} (hk : k < z.length) : (fillI q z k)[k]? = some (.int q 0) := by
  unfold fillI
  rw [List.getElem?_toArray, List.getElem?_append_right (by simp; omega), List.getElem?_replicate, if_pos (by simp only [List.length_take, List.length_map]; omega)]
theorem intA_get {q : IntKind} {z : List Int} {k : Nat} {s : Int} (h : z[k]? = some s) : (intA q z)[k]? = some (.int q s) := by
  unfold intA; rw [List.getElem?_toArray, List.getElem?_map, h]; rfl
theorem make_u8 {P : Program} {t e : TypeId} (ht : P.underlying t = some (.slice e)) (hi : (P.info? e).map (fun i => (i.zero, i.size, i.bytes)) = some (some (.int .u8 0), 1, 1)) (n : Nat) (hn : n ≤ 16777216) (w : World) :
    (Instr.makeSlice t (.int .i64 (n : Int)) (.int .i64 (n : Int))).run P w = .ok (.slice (some ⟨w.heap.size, 0, none⟩) n n) (w.alloc (.cells (List.replicate n (Value.int .u8 0)).toArray e)) := by
  obtain ⟨i, hi0, hz, hs, hb⟩ := info_parts hi
  have hr := run_make (P := P) w t e i _ ht hi0 hz .i64 .i64 n n (by omega) (by omega) (by rw [hb]; omega) (by omega)
  rw [hs] at hr
  simp only [Int.toNat_natCast, Nat.mul_one] at hr
  rw [hr]
  have : madeCells (Value.int .u8 0).cells n = (List.replicate n (Value.int .u8 0)).toArray := by
    apply Array.toList_inj.1
    show (madeCells #[Value.int .u8 0] n).toList = _
    rw [toList_madeCells_one]
  rw [this]
theorem ints_of_blk {q : IntKind} {w : World} {g E n : Nat} {z : List Int} (hb : Blk w g E (intA q z)) (hl : z.length = n) (hn : n ≤ maxLen) (hwf : ∀ (k : Nat) (x : Int), z[k]? = some x → (Lit.int q x).wf = true) : IsInts q w (some ⟨g, 0, none⟩) n n z :=
  ⟨hl, Nat.le_refl _, hn, hwf, (fun h => by cases h), fun _ => ⟨g, 0, rfl, hb.lt, fun k s hs => by rw [Nat.zero_add, hb.cell k]; exact intA_get hs⟩⟩
theorem ints_nil (q : IntKind) (w : World) : IsInts q w none 0 0 [] := ⟨rfl, Nat.le_refl _, Nat.zero_le _, (fun k s hs => by simp at hs), (fun _ => rfl), fun hn => absurd hn (by omega)⟩
/-- A copy of a slice of numbers. -/
def CopyI (q : IntKind) (w : World) (a : Option Addr) (n : Nat) (z : List Int) (e : Ending) (w' : World) : Prop :=
  ∃ a' c', e = .returned (.slice a' n c') ∧ a'.isNone = a.isNone ∧ Below w.heap.size w w' ∧ IsInts q w' a' n c' z
end Go.Proofs.Yteblhjodfhhfjaa
