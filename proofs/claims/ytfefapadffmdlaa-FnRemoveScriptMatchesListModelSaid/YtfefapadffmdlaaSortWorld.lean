/- The world behind sort.Sort over a block of strings. Over any program. -/
import Derived.Test.YtfefapadffmdlaaSetLib
import Derived.Shelf.GgSortMore.Iface
import Derived.Sort.EncStr
import Derived.Sort.LotA
namespace Go.Proofs.Ytfefapadffmdlaa
open Go.Shelf Go.RowKit Go.Lib Go.Sort
set_option linter.unusedVariables false

def toBs (ss : List ByteArray) : Array (List UInt8) := (ss.map fun s => s.data.toList).toArray
def ofBs (d : Array (List UInt8)) : List ByteArray := d.toList.map fun l => ⟨l.toArray⟩
theorem size_toBs (ss : List ByteArray) : (toBs ss).size = ss.length := by simp [toBs]
theorem toBs_get {ss : List ByteArray} {j : Nat} {s : ByteArray} (h : ss[j]? = some s) : (toBs ss)[j]! = s.data.toList := by
  have hj : j < ss.length := by
    rcases Nat.lt_or_ge j ss.length with h' | h'
    · exact h'
    · rw [List.getElem?_eq_none h'] at h; cases h
  rw [getElem!_pos (toBs ss) j (by rw [size_toBs]; exact hj)]
  rw [List.getElem?_eq_getElem hj] at h
  simp [toBs, Option.some.inj h]
theorem enc_of (s : ByteArray) : encStr s.data.toList = Value.string s := by simp [encStr]
theorem ofBs_toBs (ss : List ByteArray) : ofBs (toBs ss) = ss := by
  simp [ofBs, toBs, List.map_map, Function.comp_def]
theorem holds_of_blk {w : World} {g E : Nat} {ss : List ByteArray} (h : Blk w g E (strA ss)) : Holds encStr w g 0 (toBs ss) := by
  intro j hj
  rw [size_toBs] at hj
  have hs := List.getElem?_eq_getElem hj
  rw [toBs_get hs, enc_of, Nat.zero_add]
  exact ⟨(h.cell j).trans (strA_get hs), h.frozen j⟩
theorem sorted_blk {w : World} {g E n : Nat} {ss : List ByteArray} {d : Array (List UInt8)} {os : Array Obj} (h : Blk w g E (strA ss)) (hd : d.size = ss.length) :
    Blk (grow (putRow encStr (Sort.ahead w n) g 0 d) os) g E (strA (ofBs d)) ∧ w.grownBy (grow (putRow encStr (Sort.ahead w n) g 0 d) os) (some g) := by
  have hg := h.lt
  have hc : putCells encStr 0 d (strA ss) = strA (ofBs d) := by
    apply Array.ext_getElem?
    intro k
    simp only [putCells, Array.getElem?_mapIdx, Nat.zero_le, true_and, Nat.zero_add, Nat.sub_zero]
    by_cases hk : k < ss.length
    · have hk' : k < d.size := by omega
      have h1 := strA_get (List.getElem?_eq_getElem hk)
      rw [h1]
      have h2 : (ofBs d)[k]? = some ⟨(d[k]).toArray⟩ := by simp [ofBs, hk']
      rw [strA_get h2]
      simp [hk', encStr, getElem!_pos]
    · have h1 : (strA ss)[k]? = none := by simp [strA]; omega
      have h2 : (strA (ofBs d))[k]? = none := by simp [strA, ofBs]; omega
      rw [h1, h2]
      rfl
  have hh : ∀ k, k < w.heap.size → (grow (putRow encStr (Sort.ahead w n) g 0 d) os).heap[k]? = if g = k then (w.heap[k]?).map (onCells (putCells encStr 0 d)) else w.heap[k]? := by
    intro k hk
    show ((w.heap.modify g (onCells (putCells encStr 0 d))) ++ os)[k]? = _
    rw [Array.getElem?_append_left (by simpa using hk), Array.getElem?_modify]
  constructor
  · unfold Blk at h ⊢
    rw [hh g hg, if_pos rfl, h]
    show some (Obj.cells (putCells encStr 0 d (strA ss)) E (0, 0)) = _
    rw [hc]
  · refine ⟨rfl, rfl, rfl, ?_, fun k hk hne => ?_⟩
    · show w.heap.size ≤ ((w.heap.modify g (onCells (putCells encStr 0 d))) ++ os).size
      simp
    · rw [hh k hk, if_neg (fun e => hne (by rw [e]))]
theorem perm_of_permIn {ss : List ByteArray} {d' : Array (List UInt8)} (h : PermIn 0 (toBs ss).size (toBs ss) d') : d'.size = ss.length ∧ (ofBs d').Perm ss := by
  obtain ⟨h1, _, h3⟩ := h
  refine ⟨by rw [h1, size_toBs], ?_⟩
  have e1 : (d'.extract 0 (toBs ss).size) = d' := by rw [← h1]; simp
  have e2 : ((toBs ss).extract 0 (toBs ss).size) = toBs ss := by simp
  rw [e1, e2] at h3
  have h4 := h3.map (fun l => (⟨l.toArray⟩ : ByteArray))
  have h5 : (toBs ss).toList.map (fun l => (⟨l.toArray⟩ : ByteArray)) = ss := ofBs_toBs ss
  rw [h5] at h4
  exact h4
/-- Strings in ascending order of their bytes. -/
def Asc (ss : List ByteArray) : Prop := ∀ (i j : Nat) (s t : ByteArray), i < j → ss[i]? = some s → ss[j]? = some t → ltStr t.data.toList s.data.toList = false
theorem asc_of_sortedIn {d' : Array (List UInt8)} {n : Nat} (hn : d'.size = n) (h : SortedIn ltStr 0 n d') : Asc (ofBs d') := by
  intro i j s t hij hi hj
  have hj' : j < d'.size := by
    rcases Nat.lt_or_ge j d'.size with h' | h'
    · exact h'
    · rw [List.getElem?_eq_none (by simpa [ofBs] using h')] at hj; cases hj
  have hi' : i < d'.size := by omega
  have e1 : (ofBs d')[i]? = some ⟨(d'[i]).toArray⟩ := by simp [ofBs, hi']
  have e2 : (ofBs d')[j]? = some ⟨(d'[j]).toArray⟩ := by simp [ofBs, hj']
  rw [e1] at hi
  rw [e2] at hj
  obtain rfl := Option.some.inj hi
  obtain rfl := Option.some.inj hj
  have h2 := h i j (Nat.zero_le _) hij (by omega)
  rw [getElem!_pos d' j hj', getElem!_pos d' i hi'] at h2
  simpa using h2
theorem asc_pairwise {l : List ByteArray} (h : Asc l) : l.Pairwise fun a b => a.data.toList ≤ b.data.toList := by
  rw [List.pairwise_iff_getElem]
  intro i j hi hj hij
  have h1 := h i j _ _ hij (List.getElem?_eq_getElem hi) (List.getElem?_eq_getElem hj)
  simpa [ltStr, List.not_lt] using h1
/-- Lists in ascending order that are permutations of one another are one list. -/
theorem asc_unique {l l' : List ByteArray} (h : Asc l) (h' : Asc l') (hp : l.Perm l') : l = l' :=
  List.Perm.eq_of_pairwise (le := fun a b : ByteArray => a.data.toList ≤ b.data.toList) (fun a b _ _ h1 h2 => WideShapes.bytes_inj (by simpa using List.le_antisymm h1 h2)) (asc_pairwise h) (asc_pairwise h') hp
end Go.Proofs.Ytfefapadffmdlaa
