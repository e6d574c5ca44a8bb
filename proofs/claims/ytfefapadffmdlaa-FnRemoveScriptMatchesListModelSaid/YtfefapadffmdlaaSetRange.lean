/- Ranging over a set of strings: what has been met so far, as a list. Over any program. -/
import Derived.Test.YtfefapadffmdlaaSetLib
import Derived.Maps.RangeWalk
import Derived.Sort.KeysCollected
namespace Go.Proofs.Ytfefapadffmdlaa
open Go.ChangeShapes Go.WideShapes Go.ChangeAt Go.RowKit Go.Maps
set_option linter.unusedVariables false

theorem len_le_of_sub : ∀ {l l' : List ByteArray}, l.Nodup → (∀ x ∈ l, x ∈ l') → l.length ≤ l'.length
  | [], _, _, _ => Nat.zero_le _
  | a :: l, l', hn, hs => by
    have ha := hs a (by simp)
    have hn' := List.nodup_cons.1 hn
    have h1 := len_le_of_sub (l := l) (l' := l'.erase a) hn'.2 fun x hx => (List.mem_erase_of_ne (fun e : x = a => hn'.1 (e ▸ hx))).2 (hs x (by simp [hx]))
    rw [List.length_erase_of_mem ha] at h1
    have := List.length_pos_of_mem ha
    simp only [List.length_cons]
    omega

/-- Block r of w is an iterator over the set in block b (the strings of acc); out: those that it has met. -/
structure RSet (P : Program) (K : TypeId) (w : World) (b r : Nat) (acc out : List ByteArray) : Prop where
  nodup : acc.Nodup
  onodup : out.Nodup
  sub : ∀ s ∈ out, s ∈ acc
  rng : ∃ (D : DataW Unit) (left : Lit → Bool) (cnt : Nat), w.ranges P K (unitElem (H := Unit)) b r acc.length D left cnt ∧ (∀ s, Maps.has D (litOf s) = decide (s ∈ acc)) ∧ Maps.size D = acc.length ∧ (∀ s, s ∈ acc → (s ∈ out ↔ left (litOf s) = false)) ∧ (∀ s, left (litOf s) = true → s ∈ acc)

section
variable {P : Program} {K : TypeId} {w w' : World} {b r : Nat} {acc out : List ByteArray}
theorem RSet.isSet (h : RSet P K w b r acc out) : IsSet P K w b acc := by
  obtain ⟨h1, _, _, D, left, cnt, h2, h3, h4, _⟩ := h
  exact ⟨h1, D, h2.owns, h3, h4⟩
theorem RSet.kept {row : Option Nat} (h : RSet P K w b r acc out) (hg : w.grownBy w' row) (hb : some b ≠ row) (hr : some r ≠ row) : RSet P K w' b r acc out := by
  obtain ⟨h1, h2, h3, D, left, cnt, h4, h5⟩ := h
  exact ⟨h1, h2, h3, D, left, cnt, h4.kept hg hb hr, h5⟩
theorem RSet.lt (h : RSet P K w b r acc out) : r < w.heap.size := by
  obtain ⟨_, _, _, D, left, cnt, h4, _⟩ := h
  exact h4.lt
theorem RSet.left_kept {row : Option Nat} (h : RSet P K w b r acc out) (hg : w.grownBy w' row) (hb : some b ≠ row) (hr : some r ≠ row) : w'.rangeLeft b r = w.rangeLeft b r := by
  obtain ⟨h1, h2, h3, D, left, cnt, h4, h5⟩ := h
  rw [h4.left_eq, (h4.kept hg hb hr).left_eq]
end

section
variable {P : Program} {ops : Array Oper} {Q : Exit → Act → World → Prop} {rest : List Oper} {o : Oper} {a : Act} {w : World}
theorem wpList_range_set (hg : o.guard = none) (m : Operand) (t : TypeId) (hop : o.op = Op.range t m) (k e : TypeId) (K : Keyed P k) (ht : P.underlying t = some (.map k e)) (b : Nat) (acc : List ByteArray)
    (hm : a.eval m = .map (some b)) (h : IsSet P k w b acc)
    (hK : ∀ w', RSet P k w' b w.heap.size acc [] → w.grownBy w' none → w'.heap.size = w.heap.size + 1 → wpList P ops Q rest (a.put o.dst (.pointer (some ⟨w.heap.size, 0, none⟩))) w') :
    wpList P ops Q (o :: rest) a w := by
  obtain ⟨h0, D, h1, h2, h3⟩ := h
  refine wpList_range_own _ hg m t hop k e K ht _ b _ D hm h1 ?_
  intro w' hr hgr hsz
  refine hK w' ⟨h0, List.nodup_nil, fun s hs => by simp at hs, D, _, _, hr, h2, h3, fun s hs => ?_, fun s hs => ?_⟩ hgr hsz
  · rw [h2 s]
    simp [hs]
  · rw [h2 s] at hs
    simpa using hs
theorem wpList_next_set (hg : o.guard = none) (it : Operand) (hop : o.op = Op.next it false) (k : TypeId) (K : Keyed P k) (hk : P.underlying k = some .string) (b r : Nat) (acc out : List ByteArray)
    (hit : a.eval it = .pointer (some ⟨r, 0, none⟩)) (h : RSet P k w b r acc out)
    (hDone : out.Perm acc → wpList P ops Q rest (a.put o.dst (.tuple #[.bool false])) w)
    (hMore : ∀ (s : ByteArray) (w' : World), s.size ≤ maxLen → s ∈ acc → s ∉ out → RSet P k w' b r acc (out ++ [s]) → w.grownBy w' (some r) → w'.heap.size = w.heap.size → w'.rangeLeft b r < w.rangeLeft b r →
      (Instr.entry (.pointer (some ⟨r, 0, none⟩))).run P w' = .ok (.tuple #[.string s, .agg #[]]) w' → wpList P ops Q rest (a.put o.dst (.tuple #[.bool true, .string s, .agg #[]])) w') :
    wpList P ops Q (o :: rest) a w := by
  obtain ⟨h0, hn, hsub, D, left, cnt, hr, h2, h3, h4, h5⟩ := h
  refine wpList_next_ranges _ hg it hop k K _ Value.string (fun _ : Unit => Value.agg #[]) (fun key kl hkey => ?_) (fun v y hv => ?_) b r _ D left cnt hit hr ?_ ?_
  · obtain ⟨x, hx, _⟩ := Maps.keyOf_str hk hkey
    exact ⟨_, hx⟩
  · obtain ⟨rfl, _⟩ := unitElem_inv hv
    exact ⟨(), rfl⟩
  · intro _ hl
    exact hDone (perm_of_mem hn h0 fun s => ⟨hsub s, fun hs => (h4 s hs).2 (hl _)⟩)
  · intro s _ kl y w' cnt' hkey hlk hv hat hrg hlt hgr hsz hen
    obtain ⟨x, hx, rfl, hxl⟩ := Maps.keyOf_str hk hkey
    have hs : x = s.data.toList := by
      injection hx with hx
      rw [hx]
    subst hs
    have hacc : s ∈ acc := h5 s hlk
    have hout : s ∉ out := fun hs => by
      have := (h4 s hacc).1 hs
      rw [show litOf s = Lit.string s.data.toList from rfl, hlk] at this
      cases this
    have hsk : ∀ t : ByteArray, (litOf t).sameKey (Lit.string s.data.toList) = decide (t = s) := fun t => by
      by_cases hts : t = s
      · subst hts
        simp [litOf, Lit.sameKey]
      · have : ¬ t.data.toList = s.data.toList := fun e => hts (bytes_inj e)
        simp only [litOf, Lit.sameKey, hts, decide_false]
        exact beq_eq_false_iff_ne.2 this
    refine hMore s w' (by simpa using hxl) hacc hout ⟨h0, ?_, ?_, D, _, cnt', hrg, h2, h3, fun t ht => ?_, fun t ht => ?_⟩ hgr hsz (by rw [hrg.left_eq, hr.left_eq]; exact hlt) hen
    · refine List.nodup_append.2 ⟨hn, by simp, fun x hx2 y hy e => ?_⟩
      have hy' : y = s := by simpa using hy
      exact hout (hy' ▸ e ▸ hx2)
    · intro t ht
      rcases List.mem_append.1 ht with ht | ht
      · exact hsub t ht
      · simp at ht
        exact ht ▸ hacc
    · by_cases hts : t = s
      · subst hts
        simp [hsk]
      · have := h4 t ht
        simp [hsk, hts, this]
    · simp [hsk] at ht
      exact h5 t ht.1
end

theorem Blk.grown {w w' : World} {g t : Nat} {cs : Array Value} {row : Option Nat} (h : Blk w g t cs) (hg : w.grownBy w' row) (hne : some g ≠ row) : Blk w' g t cs := (hg.block g h.lt hne).trans h
theorem below_grown_none {a w w' : World} (h : Below a.heap.size a w) (hg : w.grownBy w' none) : Below a.heap.size a w' :=
  ⟨hg.os.trans h.os, hg.tape.trans h.tape, hg.output.trans h.output, Nat.le_trans h.size hg.size, fun k hk => (hg.block k (Nat.lt_of_lt_of_le hk h.size) (by simp)).trans (h.block k hk)⟩
/-- n cells: the strings of out, then empty ones. -/
def fillO (out : List ByteArray) (n : Nat) : Array Value := (out.map Value.string ++ List.replicate (n - out.length) (Value.string ByteArray.empty)).toArray
theorem fillO_zero (n : Nat) : fillO [] n = emptyA n := by simp [fillO, emptyA]
theorem fillO_end {out : List ByteArray} {n : Nat} (h : out.length = n) : fillO out n = strA out := by simp [fillO, strA, h]
theorem fillO_get {out : List ByteArray} {n : Nat} (h : out.length < n) : (fillO out n)[out.length]? = some (.string ByteArray.empty) := by
  unfold fillO
  rw [List.getElem?_toArray, List.getElem?_append_right (by simp), List.length_map, Nat.sub_self, List.getElem?_replicate]
  rw [if_pos (by omega)]
theorem fillO_step {out : List ByteArray} {n : Nat} {s : ByteArray} (h : out.length < n) : (fillO out n).setIfInBounds out.length (.string s) = fillO (out ++ [s]) n := by
  unfold fillO
  obtain ⟨m, hm⟩ : ∃ m, n - out.length = m + 1 := ⟨n - out.length - 1, by omega⟩
  rw [hm, show n - (out ++ [s]).length = m by simp; omega]
  simp [List.replicate_succ]
end Go.Proofs.Ytfefapadffmdlaa
