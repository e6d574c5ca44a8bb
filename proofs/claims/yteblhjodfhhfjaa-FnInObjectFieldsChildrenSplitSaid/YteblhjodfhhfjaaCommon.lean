/-
  Lemmas of my own over any program: what a slice of strings that came in is to a walk.
-/
import Derived.WalkKit
import Derived.ProofKit
import Derived.SliceStrings
import Derived.Below
import Derived.WalkLawsBesides
import Derived.WalkSpells
import Derived.Lib.Hide
import Derived.LaidEqlPtr
import Derived.Laws.OwnMore
import Derived.Laws.Rows
import Derived.Deep.Draws
import Derived.LoopTactic
import Derived.Laws.MakeOwn
import Derived.OwnWalk
import Derived.Deep.QuietTactic
import Derived.BigQuiet
import Derived.Outline
namespace Go.Proofs.Yteblhjodfhhfjaa
open Go.ChangeShapes Go.WideShapes Go.ChangeAt Go.RowKit

instance lawfulBytes : LawfulBEq ByteArray where
  eq_of_beq {a b} h := by
    have h' : (a.data == b.data) = true := h
    cases a
    cases b
    simp at h'
    simp [h']
  rfl {a} := by
    show (a.data == a.data) = true
    simp
theorem lt_of_cell {w : World} {a : Addr} {v : Value} (h : w.cell? a = some v) : a.block < w.heap.size := by
  rcases Nat.lt_or_ge a.block w.heap.size with h' | h'
  · exact h'
  · simp [World.cell?, Array.getElem?_eq_none h'] at h

/-- The slice value '.slice a n cap' leads to the strings ss, all of them in memory that is there. -/
structure IsStrs (w : World) (a : Option Addr) (n cap : Nat) (ss : List ByteArray) : Prop where
  len : ss.length = n
  lecap : n ≤ cap
  capmax : cap ≤ maxLen
  sizes : ∀ (k : Nat) (s : ByteArray), ss[k]? = some s → s.size ≤ maxLen
  nil : a = none → n = 0
  cells : 0 < n → ∃ b off, a = some ⟨b, off, none⟩ ∧ b < w.heap.size ∧ ∀ (k : Nat) (s : ByteArray), ss[k]? = some s → w.cell? ⟨b, off + k, none⟩ = some (.string s)

theorem IsStrs.keep {w w' : World} {a : Option Addr} {n cap : Nat} {ss : List ByteArray} (h : IsStrs w a n cap ss) (hb : Below w.heap.size w w') : IsStrs w' a n cap ss :=
  ⟨h.len, h.lecap, h.capmax, h.sizes, h.nil, fun hn => by
    obtain ⟨b, off, e, hlt, hc⟩ := h.cells hn
    exact ⟨b, off, e, Nat.lt_of_lt_of_le hlt hb.size, fun k s hs => (hb.cell (p := ⟨b, off + k, none⟩) hlt).trans (hc k s hs)⟩⟩

theorem IsStrs.at_ {w : World} {a : Option Addr} {n cap : Nat} {ss : List ByteArray} (h : IsStrs w a n cap ss) {k : Nat} (hk : k < n) :
    ∃ b off s, a = some ⟨b, off, none⟩ ∧ b < w.heap.size ∧ ss[k]? = some s ∧ s.size ≤ maxLen ∧ w.cell? ⟨b, off + k, none⟩ = some (.string s) := by
  obtain ⟨b, off, e, hlt, hc⟩ := h.cells (by omega)
  have hk' : k < ss.length := by rw [h.len]; exact hk
  have hs := List.getElem?_eq_getElem hk'
  exact ⟨b, off, _, e, hlt, hs, h.sizes k _ hs, hc k _ hs⟩

section
variable {H : Type} {enc : TypeId × Value → H} {P : Program} {w : World}
theorem strs_of_trod {t e : TypeId} {a : Option Addr} {n cap : Nat} {d : DataW H} {p : List MemPlace} (ht : P.underlying t = some (.slice e)) (he : P.underlying e = some .string) (hc : P.cellsOf e = 1)
    (h : DataW.Trod enc P w 0 (fun _ => true) true t (.slice a n cap) d p) : ∃ ss, IsStrs w a n cap ss := by
  obtain ⟨fuel, hf⟩ := h
  rcases open_strings ht he hc hf with ⟨hcs, _⟩ | ⟨x, l, c, ss, hcs, _, hl, hm, hz, _, hcell, hsz⟩
  · simp [Value.cells] at hcs
    obtain ⟨rfl, rfl, rfl⟩ := hcs
    exact ⟨[], rfl, Nat.le_refl _, Nat.zero_le _, fun k s hs => by simp at hs, fun _ => rfl, fun hn => absurd hn (by omega)⟩
  · simp [Value.cells] at hcs
    obtain ⟨rfl, rfl, rfl⟩ := hcs
    have hz' : ss.length = cap := by simpa using hz
    have hget : ∀ (k : Nat) (s : ByteArray), (ss.take n)[k]? = some s → k < n ∧ ss[k]? = some s := by
      intro k s hs
      rw [List.getElem?_take] at hs
      split at hs
      · exact ⟨‹_›, hs⟩
      · cases hs
    refine ⟨ss.take n, by simp; omega, hl, hm, fun k s hs => hsz s (List.mem_of_getElem? (hget k s hs).2), (fun h => by cases h), fun hn => ?_⟩
    obtain ⟨b, off, spot⟩ := x
    have h0 := hcell 0 (by omega)
    have hspot : spot = none := by simpa [Addr.add] using World.cell?_spot h0
    subst hspot
    have hlt : b < w.heap.size := by simpa [Addr.add] using lt_of_cell h0
    refine ⟨b, off, rfl, hlt, fun k s hs => ?_⟩
    obtain ⟨hk, hs'⟩ := hget k s hs
    have := hcell k (by omega)
    rw [List.getD, hs'] at this
    rcases Nat.eq_zero_or_pos k with h0' | h0'
    · subst h0'; simpa [Addr.add] using this
    · simpa [Addr.add, show k ≠ 0 by omega] using this
end

/-- The call hands back some bool, which if true tells p, and leaves the world as it was. -/
def BoolIf (p : Prop) (w : World) (e : Ending) (w' : World) : Prop := ∃ r, e = .returned (.bool r) ∧ (r = true → p) ∧ w = w'
theorem BoolIf.mk {p : Prop} {w : World} {r : Bool} (h : r = true → p) : BoolIf p w (.returned (.bool r)) w := ⟨r, rfl, h, rfl⟩
theorem BoolIf.no {p : Prop} {w : World} : BoolIf p w (.returned (.bool false)) w := ⟨false, rfl, (fun h => by cases h), rfl⟩
theorem BoolIf.yes {p : Prop} {w : World} (h : p) : BoolIf p w (.returned (.bool true)) w := ⟨true, rfl, (fun _ => h), rfl⟩
/-- The call hands back some int, which if at most b tells p, and leaves the world as it was. -/
def IntIf (lo hi b : Int) (p : Prop) (w : World) (e : Ending) (w' : World) : Prop := ∃ n, e = .returned (.int .i64 n) ∧ lo ≤ n ∧ n ≤ hi ∧ (n ≤ b → p) ∧ w = w'

/-! ### blocks that are known whole -/
/-- Block g of w is just the cells cs, of element type t, none of them frozen. -/
def Blk (w : World) (g : Nat) (t : TypeId) (cs : Array Value) : Prop := w.heap[g]? = some (.cells cs t (0, 0))

section
variable {w w' : World} {g : Nat} {t : TypeId} {cs : Array Value}
theorem Blk.lt (h : Blk w g t cs) : g < w.heap.size := by
  rcases Nat.lt_or_ge g w.heap.size with h' | h'
  · exact h'
  · unfold Blk at h; rw [Array.getElem?_eq_none h'] at h; cases h
theorem Blk.cell (h : Blk w g t cs) (i : Nat) : w.cell? ⟨g, i, none⟩ = cs[i]? := cell_of_row w g i cs t (0, 0) h
theorem Blk.frozen (h : Blk w g t cs) (i : Nat) : w.frozen? ⟨g, i, none⟩ = false := by unfold Blk at h; simp [World.frozen?, h]
theorem Blk.new (w : World) (t : TypeId) (cs : Array Value) : Blk (w.alloc (.cells cs t)) w.heap.size t cs := heap_alloc_new w _
theorem Blk.alloc (h : Blk w g t cs) (o : Obj) : Blk (w.alloc o) g t cs := (Below.heap_alloc w o g h.lt).trans h
theorem Blk.drew (h : Blk w g t cs) : Blk w.drew g t cs := h
theorem Blk.drewN (h : Blk w g t cs) (n : Nat) : Blk (w.drewN n) g t cs := h
theorem Blk.set_ (h : Blk w g t cs) (i : Nat) (u : Value) : Blk (w.setCell ⟨g, i, none⟩ u) g t (cs.setIfInBounds i u) := by
  unfold Blk at h ⊢; simp [World.setCell, Array.getElem?_modify, h]
theorem Blk.far (h : Blk w g t cs) {p : Addr} (hp : g ≠ p.block) (u : Value) : Blk (w.setCell p u) g t cs := (Below.heap_setCell w p u g hp).trans h
theorem Blk.below {B : Nat} (h : Blk w g t cs) (hb : Below B w w') (hg : g < B) : Blk w' g t cs := (hb.block g hg).trans h
end

/-- w' is w but for block g. -/
structure Wrote (g : Nat) (w w' : World) : Prop where
  os : w'.os = w.os
  tape : w'.tape = w.tape
  output : w'.output = w.output
  size : w'.heap.size = w.heap.size
  block : ∀ k, k ≠ g → w'.heap[k]? = w.heap[k]?
theorem Wrote.refl (g : Nat) (w : World) : Wrote g w w := ⟨rfl, rfl, rfl, rfl, fun _ _ => rfl⟩
theorem Wrote.set (g i : Nat) (w : World) (u : Value) : Wrote g w (w.setCell ⟨g, i, none⟩ u) := ⟨rfl, rfl, rfl, by simp [World.setCell], fun k hk => Below.heap_setCell w ⟨g, i, none⟩ u k hk⟩
theorem Wrote.drewN {g : Nat} {w w' : World} (h : Wrote g w w') (n : Nat) : Wrote g w (w'.drewN n) := ⟨h.os, h.tape, h.output, h.size, h.block⟩
theorem Wrote.trans {g : Nat} {a b c : World} (h : Wrote g a b) (k : Wrote g b c) : Wrote g a c :=
  ⟨k.os.trans h.os, k.tape.trans h.tape, k.output.trans h.output, k.size.trans h.size, fun i hi => (k.block i hi).trans (h.block i hi)⟩
theorem Blk.wrote {w w' : World} {g k : Nat} {t : TypeId} {cs : Array Value} (h : Blk w k t cs) (hw : Wrote g w w') (hk : k ≠ g) : Blk w' k t cs := (hw.block k hk).trans h
theorem below_wrote {a w w' : World} {g : Nat} (h : Below a.heap.size a w) (hw : Wrote g w w') (hg : a.heap.size ≤ g) : Below a.heap.size a w' :=
  h.trans ⟨hw.os, hw.tape, hw.output, by rw [hw.size]; exact Nat.le_refl _, fun k hk => hw.block k (by omega)⟩
theorem Wrote.below {w w' : World} {g : Nat} (hw : Wrote g w w') {B : Nat} (hg : B ≤ g) : Below B w w' := ⟨hw.os, hw.tape, hw.output, by rw [hw.size]; exact Nat.le_refl _, fun k hk => hw.block k (by omega)⟩

theorem size_of_info {P : Program} {te : TypeId} {n : Nat} (h : (P.info? te).map (·.size) = some n) : ∃ j, P.info? te = some j ∧ j.size = n := by
  obtain ⟨i, hi, hn⟩ := Option.map_eq_some_iff.1 h
  exact ⟨i, hi, hn⟩

theorem eql_ptr_other {P : Program} (w : World) {tp te : TypeId} {n : Nat} {a b : Addr} {ca cb : Array Value} {ta tb : TypeId} (hp : P.underlying tp = some (.pointer te)) (hte : (P.info? te).map (·.size) = some (n + 1))
    (hne : a ≠ b) (ha : Blk w a.block ta ca) (hb : Blk w b.block tb cb) :
    (binOp .eql tp (.pointer (some a)) (.pointer (some b))).run P w = .ok (.bool false) w := by
  obtain ⟨j, hj, hs⟩ := size_of_info hte
  exact run_eql_ptr_other w hp hj (by omega) hne ha hb

theorem eql_two_new {P : Program} (w : World) {tp te : TypeId} {n : Nat} (ca : Array Value) (ta : TypeId) (cb : Array Value) (tb : TypeId) (hp : P.underlying tp = some (.pointer te)) (hte : (P.info? te).map (·.size) = some (n + 1)) :
    (binOp .eql tp (.pointer (some ⟨w.heap.size + 1, 0, none⟩)) (.pointer (some ⟨w.heap.size, 0, none⟩))).run P ((w.alloc (.cells ca ta)).alloc (.cells cb tb)) = .ok (.bool false) ((w.alloc (.cells ca ta)).alloc (.cells cb tb)) := by
  refine eql_ptr_other _ hp hte (by simp) (ta := tb) (ca := cb) (tb := ta) (cb := ca) ?_ ((Blk.new _ _ _).alloc _)
  have := Blk.new (w.alloc (.cells ca ta)) tb cb
  simpa using this

theorem eql_ptr_same {P : Program} (w : World) {tp te : TypeId} {n : Nat} (a : Addr) (hp : P.underlying tp = some (.pointer te)) (hte : (P.info? te).map (·.size) = some n) :
    (binOp .eql tp (.pointer (some a)) (.pointer (some a))).run P w = .ok (.bool true) w := by
  obtain ⟨j, hj, _⟩ := size_of_info hte
  exact run_eql_ptr_same w a hp hj

theorem below_drewN {B : Nat} {a w : World} (h : Below B a w) (n : Nat) : Below B a (w.drewN n) := ⟨h.os, h.tape, h.output, h.size, h.block⟩

theorem below_alloc {a w : World} (h : Below a.heap.size a w) (o : Obj) : Below a.heap.size a (w.alloc o) := h.alloc h.size o
theorem below_trans {a w w1 : World} (h : Below a.heap.size a w) (k : Below w.heap.size w w1) : Below a.heap.size a w1 := h.trans (k.mono h.size)
theorem below_set {a w : World} (h : Below a.heap.size a w) {p : Addr} (hp : a.heap.size ≤ p.block) (u : Value) : Below a.heap.size a (w.setCell p u) := h.setCell hp u

/-- Behind a contract that ends in 'Below': every old cell and every old mark reads as before. -/
theorem bcell {W w1 : World} (hb : Below W.heap.size W w1) : (∀ b o, b < W.heap.size → w1.cell? ⟨b, o, none⟩ = W.cell? ⟨b, o, none⟩) ∧ (∀ b o, b < W.heap.size → w1.frozen? ⟨b, o, none⟩ = W.frozen? ⟨b, o, none⟩) :=
  ⟨fun b o h => hb.cell (p := ⟨b, o, none⟩) h, fun b o h => hb.frozen (p := ⟨b, o, none⟩) h⟩

theorem neq_ptr_same {P : Program} (w : World) {tp te : TypeId} {n : Nat} (a : Addr) (hp : P.underlying tp = some (.pointer te)) (hte : (P.info? te).map (·.size) = some n) :
    (binOp .neq tp (.pointer (some a)) (.pointer (some a))).run P w = .ok (.bool false) w := by
  obtain ⟨j, hj, _⟩ := size_of_info hte
  have h : ∀ d : Nat, (Op.equalIn (d + 1) tp (.pointer (some a)) (.pointer (some a))).run P w = .ok true w := fun d => by
    simp [Op.equalIn, run_underlying hp, sizeOf, typeInfo, hj, run_sameAddr_same]
  simp only [binOp]
  simp [Op.equal, Op.maxDepth, h 9999]
theorem neq_ptr_other {P : Program} (w : World) {tp te : TypeId} {n : Nat} {a b : Addr} {ca cb : Array Value} {ta tb : TypeId} (hp : P.underlying tp = some (.pointer te)) (hte : (P.info? te).map (·.size) = some (n + 1))
    (hne : a ≠ b) (ha : Blk w a.block ta ca) (hb : Blk w b.block tb cb) :
    (binOp .neq tp (.pointer (some a)) (.pointer (some b))).run P w = .ok (.bool true) w := by
  obtain ⟨j, hj, hs⟩ := size_of_info hte
  have h : ∀ d : Nat, (Op.equalIn (d + 1) tp (.pointer (some a)) (.pointer (some b))).run P w = .ok false w := fun d => by
    simp [Op.equalIn, run_underlying hp, sizeOf, typeInfo, hj, show j.size ≠ 0 by omega, run_sameAddr_other w hne ha hb]
  simp only [binOp]
  simp [Op.equal, Op.maxDepth, h 9999]

theorem equalIn_ptr_nil {P : Program} (w : World) (d : Nat) {tp te : TypeId} (hp : P.underlying tp = some (.pointer te)) :
    (Op.equalIn (d + 1) tp (.pointer none) (.pointer none)).run P w = .ok true w := by
  simp [Op.equalIn, run_underlying hp]
theorem equalIn_ptr_same {P : Program} (w : World) (d : Nat) {tp te : TypeId} {n : Nat} (a : Addr) (hp : P.underlying tp = some (.pointer te)) (hte : (P.info? te).map (·.size) = some n) :
    (Op.equalIn (d + 1) tp (.pointer (some a)) (.pointer (some a))).run P w = .ok true w := by
  obtain ⟨j, hj, _⟩ := size_of_info hte
  simp [Op.equalIn, run_underlying hp, sizeOf, typeInfo, hj, run_sameAddr_same]

theorem bytes_eq_iff (a b : ByteArray) : (a.toList == b.toList) = decide (a = b) := by
  rw [ByteArray.toList_eq, ByteArray.toList_eq, Bool.eq_iff_iff]
  simp only [beq_iff_eq, decide_eq_true_eq]
  exact ⟨fun h => bytes_inj h, fun h => by rw [h]⟩

/-! ### a slice of strings that the call makes and fills -/
def emptyA (n : Nat) : Array Value := (List.replicate n (Value.string ByteArray.empty)).toArray
/-- The first k of the strings laid, the rest still empty. -/
def fillA (ss : List ByteArray) (k : Nat) : Array Value := ((ss.map Value.string).take k ++ List.replicate (ss.length - k) (Value.string ByteArray.empty)).toArray
def strA (ss : List ByteArray) : Array Value := (ss.map Value.string).toArray
theorem fillA_zero (ss : List ByteArray) : fillA ss 0 = emptyA ss.length := by simp [fillA, emptyA]
theorem fillA_end (ss : List ByteArray) : fillA ss ss.length = strA ss := by
  unfold fillA strA
  rw [Nat.sub_self, List.take_of_length_le (by simp)]
  simp
theorem fillA_step {ss : List ByteArray} {k : Nat} {s : ByteArray} (h : ss[k]? = some s) : (fillA ss k).setIfInBounds k (.string s) = fillA ss (k + 1) := by
  have hk : k < ss.length := (List.getElem?_eq_some_iff.1 h).1
  have hs : (ss.map Value.string)[k]? = some (.string s) := by rw [List.getElem?_map, h]; rfl
  unfold fillA
  rw [List.setIfInBounds_toArray]
  congr 1
  apply List.ext_getElem?
  intro i
  rw [List.getElem?_set]
  by_cases hik : k = i
  · subst hik
    rw [if_pos rfl, if_pos (by simp; omega), List.getElem?_append_left (by simp; omega), List.getElem?_take, if_pos (by omega), hs]
  · rw [if_neg hik]
    by_cases hlt : i < k
    · rw [List.getElem?_append_left (by simp; omega), List.getElem?_append_left (by simp; omega), List.getElem?_take, if_pos hlt, List.getElem?_take, if_pos (by omega)]
    · rw [List.getElem?_append_right (by simp; omega), List.getElem?_append_right (by simp; omega)]
      simp only [List.length_take, List.length_map, Nat.min_eq_left (by omega : k ≤ ss.length), Nat.min_eq_left (by omega : k + 1 ≤ ss.length), List.getElem?_replicate]
      by_cases h2 : i < ss.length
      · rw [if_pos (by omega), if_pos (by omega)]
      · rw [if_neg (by omega), if_neg (by omega)]
theorem fillA_get {ss : List ByteArray} {k : Nat} (hk : k < ss.length) : ∃ u, (fillA ss k)[k]? = some (.string u) := by
  refine ⟨ByteArray.empty, ?_⟩
  unfold fillA
  rw [List.getElem?_toArray, List.getElem?_append_right (by simp; omega), List.getElem?_replicate, if_pos (by simp only [List.length_take, List.length_map]; omega)]
theorem strA_get {ss : List ByteArray} {k : Nat} {s : ByteArray} (h : ss[k]? = some s) : (strA ss)[k]? = some (.string s) := by
  unfold strA; rw [List.getElem?_toArray, List.getElem?_map, h]; rfl

theorem make_strs {P : Program} {t e : TypeId} (ht : P.underlying t = some (.slice e)) (hi : (P.info? e).map (fun i => (i.zero, i.size, i.bytes)) = some (some (.string ByteArray.empty), 1, 16)) (n : Nat) (hn : n ≤ 16777216) (w : World) :
    (Instr.makeSlice t (.int .i64 (n : Int)) (.int .i64 (n : Int))).run P w = .ok (.slice (some ⟨w.heap.size, 0, none⟩) n n) (w.alloc (.cells (emptyA n) e)) := by
  obtain ⟨i, hi0, hz, hs, hb⟩ := info_parts hi
  have hr := run_make (P := P) w t e i _ ht hi0 hz .i64 .i64 n n (by omega) (by omega) (by rw [hb]; omega) (by omega)
  rw [hs] at hr
  simp only [Int.toNat_natCast, Nat.mul_one] at hr
  rw [hr]
  have : madeCells (Value.string ByteArray.empty).cells n = emptyA n := by
    apply Array.toList_inj.1
    show (madeCells #[Value.string ByteArray.empty] n).toList = _
    rw [toList_madeCells_one]
    simp [emptyA]
  rw [this]

/-- What a function does that copies a slice of strings: nil stays nil; any other goes into the next new block. -/
def CopyPost (E : TypeId) (w : World) (a : Option Addr) (n : Nat) (ss : List ByteArray) (e : Ending) (w' : World) : Prop :=
  (a = none ∧ n = 0 ∧ e = .returned (.slice none 0 0) ∧ w = w') ∨
  (a ≠ none ∧ e = .returned (.slice (some ⟨w.heap.size, 0, none⟩) n n) ∧ Below w.heap.size w w' ∧ Blk w' w.heap.size E (strA ss) ∧ w'.heap.size = w.heap.size + 1)

theorem strs_of_blk {w : World} {g E n : Nat} {ss : List ByteArray} (hb : Blk w g E (strA ss)) (hl : ss.length = n) (hn : n ≤ maxLen) (hsz : ∀ (k : Nat) (s : ByteArray), ss[k]? = some s → s.size ≤ maxLen) :
    IsStrs w (some ⟨g, 0, none⟩) n n ss :=
  ⟨hl, Nat.le_refl _, hn, hsz, (fun h => by cases h), fun _ => ⟨g, 0, rfl, hb.lt, fun k s hs => by rw [Nat.zero_add, hb.cell k]; exact strA_get hs⟩⟩

theorem strs_nil (w : World) : IsStrs w none 0 0 [] := ⟨rfl, Nat.le_refl _, Nat.zero_le _, (fun k s hs => by simp at hs), (fun _ => rfl), fun hn => absurd hn (by omega)⟩

theorem IsStrs.drewN {w : World} {a : Option Addr} {n cap : Nat} {ss : List ByteArray} (h : IsStrs w a n cap ss) (m : Nat) : IsStrs (w.drewN m) a n cap ss := h.keep (below_drewN (Below.refl _ _) m)

theorem IsStrs.wrote {w w' : World} {g : Nat} {a : Option Addr} {n cap : Nat} {ss : List ByteArray} (h : IsStrs w a n cap ss) (hw : Wrote g w w') (hp : ∀ b off, a = some ⟨b, off, none⟩ → b ≠ g) : IsStrs w' a n cap ss :=
  ⟨h.len, h.lecap, h.capmax, h.sizes, h.nil, fun hn => by
    obtain ⟨b, off, e, hlt, hc⟩ := h.cells hn
    refine ⟨b, off, e, by rw [hw.size]; exact hlt, fun k s hs => ?_⟩
    rw [World.cell?_of_block (a := ⟨b, off + k, none⟩) (hw.block b (hp b off e))]
    exact hc k s hs⟩
theorem IsStrs.set {w : World} {a : Option Addr} {n cap : Nat} {ss : List ByteArray} (h : IsStrs w a n cap ss) {p : Addr} (hp : ∀ b off, a = some ⟨b, off, none⟩ → b ≠ p.block) (u : Value) : IsStrs (w.setCell p u) a n cap ss :=
  ⟨h.len, h.lecap, h.capmax, h.sizes, h.nil, fun hn => by
    obtain ⟨b, off, e, hlt, hc⟩ := h.cells hn
    refine ⟨b, off, e, by simpa [World.setCell] using hlt, fun k s hs => ?_⟩
    rw [World.cell?_of_block (a := ⟨b, off + k, none⟩) (Below.heap_setCell w p u b (hp b off e))]
    exact hc k s hs⟩
theorem IsStrs.lt {w : World} {a : Option Addr} {n cap : Nat} {ss : List ByteArray} (h : IsStrs w a n cap ss) (hn : 0 < n) {b off : Nat} (e : a = some ⟨b, off, none⟩) : b < w.heap.size := by
  obtain ⟨b', off', e', hlt, _⟩ := h.cells hn
  rw [e] at e'
  injection e' with e'
  injection e' with e1 e2
  omega

/-- The same in one case: a slice that is nil just where the given one is, reads as the same strings and lies in new memory. -/
theorem CopyPost.u {E : TypeId} {w w' : World} {a : Option Addr} {n cap : Nat} {ss : List ByteArray} {e : Ending} (h : CopyPost E w a n ss e w') (h0 : IsStrs w a n cap ss) (hn : n ≤ 1048576) :
    ∃ a' c', e = .returned (.slice a' n c') ∧ a'.isNone = a.isNone ∧ Below w.heap.size w w' ∧ IsStrs w' a' n c' ss ∧ (∀ b off, a' = some ⟨b, off, none⟩ → w.heap.size ≤ b) := by
  rcases h with ⟨rfl, rfl, rfl, rfl⟩ | ⟨hne, rfl, hb, hblk, _⟩
  · have hnil : ss = [] := List.eq_nil_of_length_eq_zero h0.len
    subst hnil
    exact ⟨none, 0, rfl, rfl, Below.refl _ _, strs_nil _, fun b off he => by cases he⟩
  · refine ⟨_, n, rfl, ?_, hb, strs_of_blk hblk h0.len (by unfold maxLen; omega) h0.sizes, fun b off he => ?_⟩
    · cases a with
      | none => exact absurd rfl hne
      | some x => rfl
    · injection he with he
      injection he with he
      omega

/-- The call hands back true and has drawn at most. -/
def YesQuiet (w : World) (e : Ending) (w' : World) : Prop := e = .returned (.bool true) ∧ ∃ m, w' = w.drewN m
def SomeInt (lo hi : Int) (w : World) (e : Ending) (w' : World) : Prop := ∃ n, e = .returned (.int .i64 n) ∧ lo ≤ n ∧ n ≤ hi ∧ w = w'
theorem SomeInt.mk {lo hi n : Int} {w : World} (h0 : lo ≤ n) (h1 : n ≤ hi) : SomeInt lo hi w (.returned (.int .i64 n)) w := ⟨n, rfl, h0, h1, rfl⟩

/-! ### a search in a list of strings -/
/-- The place of x in the list, -1 if it is not there. -/
def idxOf (x : ByteArray) : List ByteArray → Int
  | [] => -1
  | s :: r => if s = x then 0 else if idxOf x r < 0 then -1 else idxOf x r + 1
theorem idxOf_bounds (x : ByteArray) (ss : List ByteArray) : -1 ≤ idxOf x ss ∧ idxOf x ss < ss.length := by
  induction ss with
  | nil => simp [idxOf]
  | cons s r ih =>
    unfold idxOf
    split
    · simp
    · split <;> simp <;> omega
theorem idxOf_neg (x : ByteArray) (ss : List ByteArray) : idxOf x ss < 0 ↔ x ∉ ss := by
  induction ss with
  | nil => simp [idxOf]
  | cons s r ih =>
    unfold idxOf
    by_cases h : s = x
    · simp [h]
    · rw [if_neg h]
      by_cases h2 : idxOf x r < 0
      · simp [h2, ih.1 h2]
        exact fun e => h e.symm
      · rw [if_neg h2]
        constructor
        · intro h3; omega
        · intro h3
          exact absurd (ih.2 (fun hm => h3 (List.mem_cons_of_mem _ hm))) h2
theorem idxOf_hit {x : ByteArray} {ss : List ByteArray} {k : Nat} : ss[k]? = some x → x ∉ ss.take k → idxOf x ss = (k : Int) := by
  induction ss generalizing k with
  | nil => intro h; simp at h
  | cons s r ih =>
    intro h hno
    cases k with
    | zero =>
      simp at h
      simp [idxOf, h]
    | succ k =>
      simp at h hno
      have h1 := ih h hno.2
      unfold idxOf
      rw [if_neg (fun e => hno.1 e.symm), h1, if_neg (by omega)]
      omega
theorem take_hit {x : ByteArray} {ss : List ByteArray} {k : Nat} (h : ss[k]? = some x) (hno : x ∉ ss.take k) : x ∈ ss ∧ idxOf x ss = (k : Int) := ⟨List.mem_of_getElem? h, idxOf_hit h hno⟩
theorem take_miss {x s : ByteArray} {ss : List ByteArray} {k : Nat} (h : ss[k]? = some s) (hno : x ∉ ss.take k) (hne : ¬ s = x) : x ∉ ss.take (k + 1) := by
  rw [List.take_add_one, h]
  simp [hno]
  exact fun e => hne e.symm
theorem take_none {x : ByteArray} {ss : List ByteArray} {k : Nat} (h : ss.length ≤ k) (hno : x ∉ ss.take k) : x ∉ ss ∧ idxOf x ss = -1 := by
  rw [List.take_of_length_le h] at hno
  refine ⟨hno, ?_⟩
  have := (idxOf_neg x ss).2 hno
  have := (idxOf_bounds x ss).1
  omega
theorem IsStrs.take {w : World} {a : Option Addr} {n cap : Nat} {ss : List ByteArray} (h : IsStrs w a n cap ss) {k : Nat} (hk : k ≤ n) : IsStrs w a k cap (ss.take k) := by
  have hget : ∀ (i : Nat) (s : ByteArray), (ss.take k)[i]? = some s → ss[i]? = some s := by
    intro i s hs
    rw [List.getElem?_take] at hs
    split at hs
    · exact hs
    · cases hs
  refine ⟨by simp [h.len]; omega, by have := h.lecap; omega, h.capmax, fun i s hs => h.sizes i s (hget i s hs), fun e => by have := h.nil e; omega, fun hn => ?_⟩
  obtain ⟨b, off, e, hlt, hc⟩ := h.cells (by omega)
  exact ⟨b, off, e, hlt, fun i s hs => hc i s (hget i s hs)⟩
/-- The first k of the strings are of at most 1<<20 bytes. -/
def Short (ss : List ByteArray) (k : Nat) : Prop := ∀ i s, i < k → ss[i]? = some s → s.size ≤ 1048576
theorem Short.zero (ss : List ByteArray) : Short ss 0 := fun i s h => absurd h (by omega)
theorem Short.step {ss : List ByteArray} {k : Nat} {s : ByteArray} (h : Short ss k) (hs : ss[k]? = some s) (hz : s.size ≤ 1048576) : Short ss (k + 1) := by
  intro i t hi ht
  rcases Nat.lt_or_ge i k with h' | h'
  · exact h i t h' ht
  · obtain rfl : i = k := by omega
    obtain rfl := Option.some.inj (ht.symm.trans hs)
    exact hz
theorem Blk.new1 (w : World) (o : Obj) (t : TypeId) (cs : Array Value) : Blk ((w.alloc o).alloc (.cells cs t)) (w.heap.size + 1) t cs := by
  have h := Blk.new (w.alloc o) t cs
  simpa using h
end Go.Proofs.Yteblhjodfhhfjaa
