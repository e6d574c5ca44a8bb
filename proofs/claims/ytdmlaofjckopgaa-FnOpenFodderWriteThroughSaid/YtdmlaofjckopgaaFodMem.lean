/- Fodders in memory: rows of four-cell elements whose comments lie in blocks of their own. Over any program. -/
import Derived.Test.YtdmlaofjckopgaaFod
import Derived.Test.YtdmlaofjckopgaaFodLaw
import Derived.Laws.AppendOwn
import Derived.Maps.AppendAt
import Derived.OwnWalk
import Derived.RegionTactic
namespace Go.Proofs.Ytdmlaofjckopgaa
open Go.ChangeShapes Go.WideShapes Go.ChangeAt Go.RowKit
set_option linter.unusedVariables false

def FEl.el (x : FEl) : El := ⟨x.ca.isNone, x.cs, x.kind, x.blanks, x.indent⟩
def FEl.vals (x : FEl) : List Value := [.slice x.ca x.clen x.ccap, .int .i64 x.kind, .int .i64 x.blanks, .int .i64 x.indent]
def cellsL (fs : List FEl) : List Value := fs.flatMap FEl.vals
theorem cellsL_cons (x : FEl) (fs : List FEl) : cellsL (x :: fs) = x.vals ++ cellsL fs := by simp [cellsL]
theorem cellsL_append (fs gs : List FEl) : cellsL (fs ++ gs) = cellsL fs ++ cellsL gs := by simp [cellsL]
theorem cellsL_len (fs : List FEl) : (cellsL fs).length = fs.length * 4 := by
  induction fs with
  | nil => rfl
  | cons x r ih => rw [cellsL_cons, List.length_append, ih]; simp [FEl.vals]; omega
theorem cellsL_get {fs : List FEl} {k : Nat} {x : FEl} (h : fs[k]? = some x) (j : Nat) (hj : j < 4) : (cellsL fs)[k * 4 + j]? = x.vals[j]? := by
  induction fs generalizing k with
  | nil => simp at h
  | cons y r ih =>
    have hl : y.vals.length = 4 := rfl
    rw [cellsL_cons]
    cases k with
    | zero =>
      have : y = x := by simpa using h
      subst this
      rw [List.getElem?_append_left (by omega), Nat.zero_mul, Nat.zero_add]
    | succ k =>
      rw [List.getElem?_append_right (by omega), hl, show (k + 1) * 4 + j - 4 = k * 4 + j by omega]
      exact ih (by simpa using h)
theorem cellsL_set {fs : List FEl} {k : Nat} {x y : FEl} (h : fs[k]? = some x) :
    ((((cellsL fs).set (k * 4) (.slice y.ca y.clen y.ccap)).set (k * 4 + 1) (.int .i64 y.kind)).set (k * 4 + 2) (.int .i64 y.blanks)).set (k * 4 + 3) (.int .i64 y.indent) = cellsL (fs.set k y) := by
  induction fs generalizing k with
  | nil => simp at h
  | cons z r ih =>
    cases k with
    | zero => simp [cellsL_cons, FEl.vals]
    | succ k =>
      have h' : r[k]? = some x := by simpa using h
      have := ih h'
      rw [List.set_cons_succ, cellsL_cons, cellsL_cons, ← this]
      have hl : z.vals.length = 4 := rfl
      rw [List.set_append_right _ _ (by omega), List.set_append_right _ _ (by omega), List.set_append_right _ _ (by omega), List.set_append_right _ _ (by omega), hl]
      rw [show (k + 1) * 4 - 4 = k * 4 by omega, show (k + 1) * 4 + 1 - 4 = k * 4 + 1 by omega, show (k + 1) * 4 + 2 - 4 = k * 4 + 2 by omega, show (k + 1) * 4 + 3 - 4 = k * 4 + 3 by omega]
theorem set_same {α : Type} {l : List α} {k : Nat} {x : α} (h : l[k]? = some x) : l.set k x = l := by
  obtain ⟨hk, he⟩ := List.getElem?_eq_some_iff.1 h
  rw [← he]
  exact List.set_getElem_self hk
theorem cellsL_one {x : FEl} {u : Value} (h : u ∈ x.vals) : u.oneCell' = true := by
  simp [FEl.vals] at h
  rcases h with rfl | rfl | rfl | rfl <;> rfl

/-- An element whose comment lies in a block of element type S that is known whole. -/
structure IsEl (S : TypeId) (w : World) (x : FEl) : Prop where
  fe : IsFE w x
  own : ∀ a, x.ca = some a → ∃ cs, Blk w a.block S cs
theorem IsEl.kept {S : TypeId} {w w' : World} {x : FEl} (h : IsEl S w x) (hz : w.heap.size ≤ w'.heap.size) (hk : ∀ k cs, Blk w k S cs → Blk w' k S cs) : IsEl S w' x := by
  refine ⟨⟨⟨h.fe.strs.len, h.fe.strs.lecap, h.fe.strs.capmax, h.fe.strs.sizes, h.fe.strs.nil, fun hn => ?_⟩, h.fe.wk, h.fe.wb, h.fe.wi⟩, fun a ha => ?_⟩
  · obtain ⟨b, off, e, hlt, hc⟩ := h.fe.strs.cells hn
    obtain ⟨cs, hb⟩ := h.own _ e
    refine ⟨b, off, e, Nat.lt_of_lt_of_le hlt hz, fun k s hs => ?_⟩
    rw [(hk _ _ hb).cell (off + k), ← hb.cell (off + k)]
    exact hc k s hs
  · obtain ⟨cs, hb⟩ := h.own a ha
    exact ⟨cs, hk _ _ hb⟩
theorem IsEl.keep {S : TypeId} {w w' : World} {x : FEl} (h : IsEl S w x) (hb : Below w.heap.size w w') : IsEl S w' x := h.kept hb.size fun k cs hk => hk.below hb hk.lt

theorem IsEl.set4 {S T g o : Nat} {w : World} {x : FEl} {cs : Array Value} (h : IsEl S w x) (hB : Blk w g T cs) (hST : S ≠ T) (u0 u1 u2 u3 : Value) (o1 o2 o3 : Nat) :
    IsEl S ((((w.setCell ⟨g, o, none⟩ u0).setCell ⟨g, o1, none⟩ u1).setCell ⟨g, o2, none⟩ u2).setCell ⟨g, o3, none⟩ u3) x := by
  have far : ∀ (W : World), (∀ k cs, Blk w k S cs → Blk W k S cs) → ∀ j u, ∀ k cs, Blk w k S cs → Blk (W.setCell ⟨g, j, none⟩ u) k S cs := fun W hW j u k' cs' hb => (hW k' cs' hb).far (p := ⟨g, j, none⟩) (fun e => by
    subst e
    unfold Blk at hb hB
    rw [hb] at hB
    injection hB with hB
    injection hB with _ ht
    exact hST ht) u
  exact h.kept (by simp [World.setCell]) (far _ (far _ (far _ (far w (fun _ _ h => h) o u0) o1 u1) o2 u2) o3 u3)
theorem below_set4 {a w : World} (h : Below a.heap.size a w) {g : Nat} (hp : a.heap.size ≤ g) (o0 o1 o2 o3 : Nat) (u0 u1 u2 u3 : Value) : Below a.heap.size a ((((w.setCell ⟨g, o0, none⟩ u0).setCell ⟨g, o1, none⟩ u1).setCell ⟨g, o2, none⟩ u2).setCell ⟨g, o3, none⟩ u3) :=
  below_set (below_set (below_set (below_set h hp _) hp _) hp _) hp _

theorem cell_set4 {w : World} {g b o : Nat} {v : Value} (hne : ¬ b = g) (o0 o1 o2 o3 : Nat) (u0 u1 u2 u3 : Value) (h : w.cell? ⟨b, o, none⟩ = some v) : ((((w.setCell ⟨g, o0, none⟩ u0).setCell ⟨g, o1, none⟩ u1).setCell ⟨g, o2, none⟩ u2).setCell ⟨g, o3, none⟩ u3).cell? ⟨b, o, none⟩ = some v := by
  have far : ∀ (W : World), W.heap[b]? = w.heap[b]? → ∀ j u, (W.setCell ⟨g, j, none⟩ u).heap[b]? = w.heap[b]? := fun W hW j u => (Below.heap_setCell W ⟨g, j, none⟩ u b hne).trans hW
  rw [World.cell?_of_block (a := ⟨b, o, none⟩) (far _ (far _ (far _ (far w rfl o0 u0) o1 u1) o2 u2) o3 u3)]
  exact h

/-- The slice value v is a row of the call's own (block base or later) that reads as ls. -/
def Fodd (S T base : Nat) (w : World) (v : Value) (ls : List El) : Prop := ∃ fs : List FEl, w.ownsRow base T 4 v fs.length (cellsL fs) ∧ (∀ x ∈ fs, IsEl S w x) ∧ fs.map FEl.el = ls

section
variable {S T base : Nat} {w w' : World} {v : Value} {ls : List El}
theorem Blk.ne_ {g g' : Nat} {t t' : TypeId} {cs cs' : Array Value} (h : Blk w g t cs) (h' : Blk w g' t' cs') (hne : t ≠ t') : g ≠ g' := by
  rintro rfl
  unfold Blk at h h'
  rw [h] at h'
  injection h' with h'
  injection h' with _ ht
  exact hne ht
theorem Blk.grownF {g t : Nat} {cs : Array Value} {row : Option Nat} (h : Blk w g t cs) (hg : w.grownBy w' row) (hne : some g ≠ row) : Blk w' g t cs := (hg.block g h.lt hne).trans h
theorem own_blk {base e size n : Nat} {v : Value} {xs : List Value} (h : w.ownsRow base e size v n xs) {g : Nat} (hg : v.ownBlock = some g) : ∃ cs, Blk w g e cs := by
  rcases h.2 with ⟨rfl, _⟩ | ⟨g', cap, cur, rfl, _, hh, _⟩
  · cases hg
  · have : g' = g := by simpa [Value.ownBlock] using hg
    subst this
    exact ⟨cur, hh⟩
theorem own_move {base e size n : Nat} {v : Value} {xs : List Value} (h : w.ownsRow base e size v n xs) (hk : ∀ g cs, v.ownBlock = some g → Blk w g e cs → Blk w' g e cs) : w'.ownsRow base e size v n xs := by
  refine ⟨h.1, ?_⟩
  rcases h.2 with hn | ⟨g', cap, cur, rfl, hb, hh, rest⟩
  · exact .inl hn
  · exact .inr ⟨g', cap, cur, rfl, hb, hk g' cur rfl hh, rest⟩
theorem Fodd.moved (h : Fodd S T base w v ls) (hz : w.heap.size ≤ w'.heap.size) (hs : ∀ k cs, Blk w k S cs → Blk w' k S cs) (hk : ∀ g cs, v.ownBlock = some g → Blk w g T cs → Blk w' g T cs) : Fodd S T base w' v ls := by
  obtain ⟨fs, h1, h2, h3⟩ := h
  exact ⟨fs, own_move h1 hk, fun x hx => (h2 x hx).kept hz hs, h3⟩
theorem Fodd.keep (h : Fodd S T base w v ls) (hb : Below w.heap.size w w') : Fodd S T base w' v ls := h.moved hb.size (fun k cs hk => hk.below hb hk.lt) fun g cs _ hk => hk.below hb hk.lt
theorem Fodd.drewN (h : Fodd S T base w v ls) (n : Nat) : Fodd S T base (w.drewN n) v ls := h.keep (below_drewN (Below.refl _ _) n)
theorem Fodd.weaken {base' : Nat} (h : Fodd S T base w v ls) (hb : base' ≤ base) : Fodd S T base' w v ls := by
  obtain ⟨fs, ⟨h0, h1⟩, h2, h3⟩ := h
  refine ⟨fs, ⟨h0, ?_⟩, h2, h3⟩
  rcases h1 with hn | ⟨g', cap, cur, rfl, hb', rest⟩
  · exact .inl hn
  · exact .inr ⟨g', cap, cur, rfl, Nat.le_trans hb hb', rest⟩
theorem Fodd.lt (h : Fodd S T base w v ls) {g : Nat} (hg : v.ownBlock = some g) : base ≤ g ∧ g < w.heap.size := by
  obtain ⟨fs, h1, _⟩ := h
  exact h1.lt g hg
theorem Fodd.blk (h : Fodd S T base w v ls) {g : Nat} (hg : v.ownBlock = some g) : ∃ cs, Blk w g T cs := by
  obtain ⟨fs, h1, _⟩ := h
  exact own_blk h1 hg
/-- As a value: its address, its length, its capacity; and how it reads. -/
theorem Fodd.form (h : Fodd S T base w v ls) : ∃ a cap fs, v = .slice a ls.length cap ∧ IsFEs w a ls.length cap fs ∧ fs.map FEl.el = ls ∧ (a = none ∨ ∃ g, a = some ⟨g, 0, none⟩) ∧ (∀ x ∈ fs, IsEl S w x) := by
  obtain ⟨fs, h1, h2, h3⟩ := h
  have hl : ls.length = fs.length := by rw [← h3]; simp
  rw [hl]
  have key : ∀ a cap, v = .slice a fs.length cap → fs.length ≤ cap → cap ≤ maxLen → (a = none → fs.length = 0) → (∀ g, a = some ⟨g, 0, none⟩ → v.ownBlock = some g) → (a = none ∨ ∃ g, a = some ⟨g, 0, none⟩) → IsFEs w a fs.length cap fs := by
    intro a cap hv h4 h5 h6 h7 h8
    refine ⟨rfl, h4, h5, h6, fun k x hx => (h2 x (List.mem_of_getElem? hx)).fe, fun hn => ?_⟩
    rcases h8 with rfl | ⟨g, rfl⟩
    · exact absurd (h6 rfl) (by omega)
    · have hob := h7 g rfl
      refine ⟨g, 0, rfl, (h1.lt g hob).2, fun k x hx => ?_⟩
      have hc := h1.cells hob
      have fix : ∀ j : Nat, (⟨g, 0, none⟩ : Addr).add j = ⟨g, 0 + j, none⟩ := fun j => by
        unfold Addr.add
        split
        · rename_i h0; subst h0; rfl
        · rfl
      have c := fun j hj u (hu : x.vals[j]? = some u) => hc (k * 4 + j) u ((cellsL_get hx j hj).trans hu)
      refine ⟨?_, ?_, ?_, ?_⟩
      · have := c 0 (by omega) _ rfl; rw [fix] at this; exact this
      · have := c 1 (by omega) _ rfl; rw [fix] at this; rw [Nat.add_assoc]; exact this
      · have := c 2 (by omega) _ rfl; rw [fix] at this; rw [Nat.add_assoc]; exact this
      · have := c 3 (by omega) _ rfl; rw [fix] at this; rw [Nat.add_assoc]; exact this
  rcases h1.2 with ⟨rfl, hn⟩ | ⟨g, cap, cur, rfl, hb, hh, hnc, hcm, hsz, htk⟩
  · refine ⟨none, 0, fs, by rw [hn], ?_, h3, Or.inl rfl, h2⟩
    exact key none 0 (by rw [hn]) (by omega) (Nat.zero_le _) (fun _ => hn) (fun g hg => by cases hg) (Or.inl rfl)
  · refine ⟨some ⟨g, 0, none⟩, cap, fs, rfl, ?_, h3, Or.inr ⟨g, rfl⟩, h2⟩
    exact key _ cap rfl hnc hcm (fun h => by cases h) (fun g' hg => by injection hg with hg; injection hg with hg; subst hg; rfl) (Or.inr ⟨g, rfl⟩)
theorem Fodd.slice (h : Fodd S T base w v ls) : ∃ a n c, v = .slice a n c := by
  obtain ⟨a, c, _, hv, _⟩ := h.form
  exact ⟨a, _, c, hv⟩
theorem fodd_nil (S T base : Nat) (w : World) : Fodd S T base w (.slice none 0 0) [] := ⟨[], World.ownsRow_nil w base T 4, fun x hx => by simp at hx, rfl⟩
theorem Fodd.far (h : Fodd S T base w v ls) {p i PT : Nat} {ps : Array Value} (hp : Blk w p PT ps) (h1 : PT ≠ T) (h2 : PT ≠ S) (u : Value) : Fodd S T base (w.setCell ⟨p, i, none⟩ u) v ls :=
  h.moved (by simp [World.setCell]) (fun k cs hk => hk.far (p := ⟨p, i, none⟩) (hk.ne_ hp h2.symm) u) fun g cs _ hk => hk.far (p := ⟨p, i, none⟩) (hk.ne_ hp h1.symm) u
theorem IsEl.far {x : FEl} (h : IsEl S w x) {p i PT : Nat} {ps : Array Value} (hp : Blk w p PT ps) (h2 : PT ≠ S) (u : Value) : IsEl S (w.setCell ⟨p, i, none⟩ u) x :=
  h.kept (by simp [World.setCell]) fun k cs hk => hk.far (p := ⟨p, i, none⟩) (hk.ne_ hp h2.symm) u
theorem IsEl.grown {x : FEl} {row : Option Nat} (h : IsEl S w x) (hg : w.grownBy w' row) (hr : ∀ g, row = some g → ∃ cs t, Blk w g t cs ∧ t ≠ S) : IsEl S w' x :=
  h.kept hg.size fun k cs hk => hk.grownF hg fun e => by
    obtain ⟨cs', t, hb, hne⟩ := hr k e.symm
    exact hb.ne_ hk hne rfl
/-- A row of n elements of value zero. -/
def zFEl : FEl := ⟨none, 0, 0, [], 0, 0, 0⟩
def zEl : El := ⟨true, [], 0, 0, 0⟩
theorem isEl_z (S : TypeId) (w : World) : IsEl S w zFEl := ⟨⟨strs_nil w, rfl, rfl, rfl⟩, fun a h => by cases h⟩
theorem fodd_made {S T : Nat} (w : World) (n : Nat) (hn : n ≤ maxLen) : Fodd S T w.heap.size (w.alloc (.cells (cellsL (List.replicate n zFEl)).toArray T)) (.slice (some ⟨w.heap.size, 0, none⟩) n n) (List.replicate n zEl) := by
  refine ⟨List.replicate n zFEl, ⟨cellsL_len _, .inr ⟨w.heap.size, n, _, by simp, Nat.le_refl _, heap_alloc_new w _, by simp, hn, ?_, ?_⟩⟩, fun x hx => ?_, ?_⟩
  · simp [cellsL_len]
  · rw [List.take_of_length_le]
    rw [cellsL_len]
    exact Nat.le_refl _
  · rw [List.eq_of_mem_replicate hx]; exact isEl_z S _
  · simp [zFEl, zEl, FEl.el]
theorem own_set {base e size n cap g : Nat} {xs : List Value} (h : w.ownsRow base e size (.slice (some ⟨g, 0, none⟩) n cap) n xs) {j : Nat} (hj : j < xs.length) (u : Value) :
    (w.setCell ⟨g, j, none⟩ u).ownsRow base e size (.slice (some ⟨g, 0, none⟩) n cap) n (xs.set j u) := by
  refine ⟨by rw [List.length_set]; exact h.1, ?_⟩
  rcases h.2 with ⟨hv, _⟩ | ⟨g', cap', cur, hv, hb, hh, hnc, hcm, hsz, htk⟩
  · cases hv
  · injection hv with hv1 hv2 hv3
    injection hv1 with hv1
    injection hv1 with hv1
    subst hv1 hv3
    refine .inr ⟨g, cap, cur.setIfInBounds j u, rfl, hb, (show Blk w g e cur from hh).set_ j u, hnc, hcm, by simpa using hsz, ?_⟩
    rw [← htk]
    have hjl : j < n * size := by rw [← h.1]; exact hj
    rw [Array.toList_setIfInBounds, List.take_set]
/-- Storing a whole element. -/
theorem Fodd.put {g n cap k : Nat} (h : Fodd S T base w (.slice (some ⟨g, 0, none⟩) n cap) ls) (hST : S ≠ T) (hk : k < n) {x : FEl} (hx : IsEl S w x) :
    Fodd S T base ((((w.setCell ⟨g, k * 4, none⟩ (.slice x.ca x.clen x.ccap)).setCell ⟨g, k * 4 + 1, none⟩ (.int .i64 x.kind)).setCell ⟨g, k * 4 + 2, none⟩ (.int .i64 x.blanks)).setCell ⟨g, k * 4 + 3, none⟩ (.int .i64 x.indent)) (.slice (some ⟨g, 0, none⟩) n cap) (ls.set k x.el) := by
  obtain ⟨fs, h1, h2, h3⟩ := h
  obtain ⟨cs, hB⟩ := own_blk h1 (g := g) rfl
  have hn : fs.length = n := by
    rcases h1.2 with ⟨hv, _⟩ | ⟨g', cap', cur, hv, _⟩
    · cases hv
    · injection hv with _ hv2 _; exact hv2.symm
  rw [hn] at h1
  obtain ⟨y, hy⟩ : ∃ y, fs[k]? = some y := ⟨_, List.getElem?_eq_getElem (by omega)⟩
  have hl := cellsL_len fs
  have s1 := own_set h1 (j := k * 4) (by omega) (.slice x.ca x.clen x.ccap)
  have s2 := own_set s1 (j := k * 4 + 1) (by rw [List.length_set]; omega) (.int .i64 x.kind)
  have s3 := own_set s2 (j := k * 4 + 2) (by simp only [List.length_set]; omega) (.int .i64 x.blanks)
  have s4 := own_set s3 (j := k * 4 + 3) (by simp only [List.length_set]; omega) (.int .i64 x.indent)
  rw [cellsL_set hy] at s4
  have far : ∀ (W : World), (∀ k cs, Blk w k S cs → Blk W k S cs) → ∀ j u, ∀ k cs, Blk w k S cs → Blk (W.setCell ⟨g, j, none⟩ u) k S cs := fun W hW j u k' cs' hb => (hW k' cs' hb).far (p := ⟨g, j, none⟩) (hb.ne_ hB hST) u
  have hkeep := far _ (far _ (far _ (far w (fun _ _ h => h) (k * 4) (.slice x.ca x.clen x.ccap)) (k * 4 + 1) (.int .i64 x.kind)) (k * 4 + 2) (.int .i64 x.blanks)) (k * 4 + 3) (.int .i64 x.indent)
  refine ⟨fs.set k x, by rw [List.length_set, hn]; exact s4, fun z hz => ?_, by rw [List.map_set, h3]⟩
  have hz' : z ∈ fs ∨ z = x := by
    rcases List.mem_or_eq_of_mem_set hz with h | h
    · exact Or.inl h
    · exact Or.inr h
  have hzz : IsEl S w z := by
    rcases hz' with h | rfl
    · exact h2 z h
    · exact hx
  exact hzz.kept (by simp [World.setCell]) hkeep
theorem Fodd.putc {g n cap k : Nat} (h : Fodd S T base w (.slice (some ⟨g, 0, none⟩) n cap) ls) (hST : S ≠ T) (hk : k < n) {ca : Option Addr} {clen ccap : Nat} {cs : List ByteArray} {kd bl idt : Int} (hx : IsEl S w ⟨ca, clen, ccap, cs, kd, bl, idt⟩) {y : El} (hy : (⟨ca.isNone, cs, kd, bl, idt⟩ : El) = y) :
    Fodd S T base ((((w.setCell ⟨g, k * 4, none⟩ (.slice ca clen ccap)).setCell ⟨g, k * 4 + 1, none⟩ (.int .i64 kd)).setCell ⟨g, k * 4 + 2, none⟩ (.int .i64 bl)).setCell ⟨g, k * 4 + 3, none⟩ (.int .i64 idt)) (.slice (some ⟨g, 0, none⟩) n cap) (ls.set k y) := by
  have P := h.put hST hk hx
  dsimp only [FEl.el] at P
  rw [hy] at P
  exact P
/-- Storing the two numbers of the merge into the element k. -/
theorem Fodd.put2 {g n cap k : Nat} (h : Fodd S T base w (.slice (some ⟨g, 0, none⟩) n cap) ls) (hST : S ≠ T) (hk : k < n) {x : El} (hx : ls[k]? = some x) (b i : Int) (hb : (Lit.int .i64 b).wf = true) (hi : (Lit.int .i64 i).wf = true) :
    Fodd S T base ((w.setCell ⟨g, k * 4 + 3, none⟩ (.int .i64 i)).setCell ⟨g, k * 4 + 2, none⟩ (.int .i64 b)) (.slice (some ⟨g, 0, none⟩) n cap) (ls.set k ⟨x.nl, x.cs, x.kind, b, i⟩) := by
  obtain ⟨fs, h1, h2, h3⟩ := h
  obtain ⟨cs, hB⟩ := own_blk h1 (g := g) rfl
  have hn : fs.length = n := by
    rcases h1.2 with ⟨hv, _⟩ | ⟨g', cap', cur, hv, _⟩
    · cases hv
    · injection hv with _ hv2 _; exact hv2.symm
  rw [hn] at h1
  obtain ⟨y, hy⟩ : ∃ y, fs[k]? = some y := ⟨_, List.getElem?_eq_getElem (by omega)⟩
  have hyx : y.el = x := by
    rw [← h3, List.getElem?_map, hy] at hx
    exact Option.some.inj hx
  have hl := cellsL_len fs
  have s1 := own_set h1 (j := k * 4 + 3) (by omega) (.int .i64 i)
  have s2 := own_set s1 (j := k * 4 + 2) (by rw [List.length_set]; omega) (.int .i64 b)
  have e : ((cellsL fs).set (k * 4 + 3) (.int .i64 i)).set (k * 4 + 2) (.int .i64 b) = cellsL (fs.set k ⟨y.ca, y.clen, y.ccap, y.cs, y.kind, b, i⟩) := by
    rw [← cellsL_set (y := ⟨y.ca, y.clen, y.ccap, y.cs, y.kind, b, i⟩) hy]
    have g0 := cellsL_get hy 0 (by omega)
    have g1 := cellsL_get hy 1 (by omega)
    have e0 : (cellsL fs).set (k * 4) (.slice y.ca y.clen y.ccap) = cellsL fs := set_same g0
    have e1 : (cellsL fs).set (k * 4 + 1) (.int .i64 y.kind) = cellsL fs := set_same g1
    rw [e0, e1, List.set_comm _ _ (by omega)]
  rw [e] at s2
  have hkeep : ∀ k' cs', Blk w k' S cs' → Blk ((w.setCell ⟨g, k * 4 + 3, none⟩ (.int .i64 i)).setCell ⟨g, k * 4 + 2, none⟩ (.int .i64 b)) k' S cs' := fun k' cs' hb' => (hb'.far (p := ⟨g, k * 4 + 3, none⟩) (hb'.ne_ hB hST) _).far (p := ⟨g, k * 4 + 2, none⟩) (hb'.ne_ hB hST) _
  refine ⟨fs.set k ⟨y.ca, y.clen, y.ccap, y.cs, y.kind, b, i⟩, by rw [List.length_set, hn]; exact s2, fun z hz => ?_, ?_⟩
  · refine IsEl.kept ?_ (by simp [World.setCell]) hkeep
    rcases List.mem_or_eq_of_mem_set hz with h | rfl
    · exact h2 z h
    · have hy' := h2 y (List.mem_of_getElem? hy)
      exact ⟨⟨hy'.fe.strs, hy'.fe.wk, hb, hi⟩, hy'.own⟩
  · rw [List.map_set, h3, ← hyx]
    rfl
end

/-- The four cells of one element. -/
theorem Fodd.at4 {S T base g n cap k : Nat} {w : World} {ls : List El} (h : Fodd S T base w (.slice (some ⟨g, 0, none⟩) n cap) ls) (hk : k < n) : ∃ u0 u1 u2 u3, w.cell? ⟨g, k * 4, none⟩ = some u0 ∧ w.cell? ⟨g, k * 4 + 1, none⟩ = some u1 ∧ w.cell? ⟨g, k * 4 + 2, none⟩ = some u2 ∧ w.cell? ⟨g, k * 4 + 3, none⟩ = some u3 ∧
    w.frozen? ⟨g, k * 4, none⟩ = false ∧ w.frozen? ⟨g, k * 4 + 1, none⟩ = false ∧ w.frozen? ⟨g, k * 4 + 2, none⟩ = false ∧ w.frozen? ⟨g, k * 4 + 3, none⟩ = false := by
  obtain ⟨cs, hB⟩ := h.blk (g := g) rfl
  obtain ⟨a, cap', fs, hv, hF, h3, _, _⟩ := h.form
  injection hv with hv1 hv2 hv3
  subst hv1
  rw [← hv2] at hF
  obtain ⟨b, off, x, e, _, _, _, c0, c1, c2, c3⟩ := hF.at_ hk
  injection e with e
  injection e with e1 e2
  subst e1 e2
  rw [Nat.zero_add] at c0 c1 c2 c3
  exact ⟨_, _, _, _, c0, c1, c2, c3, hB.frozen _, hB.frozen _, hB.frozen _, hB.frozen _⟩
/-- A new row of the call's own, reading as ls, comes back. -/
def FodPost (S T : TypeId) (ls : List El) (w : World) (e : Ending) (w' : World) : Prop := ∃ v, e = .returned v ∧ Fodd S T w.heap.size w' v ls ∧ Below w.heap.size w w'
theorem made4 (c : Nat) : madeCells (Value.agg #[.slice none 0 0, .int .i64 0, .int .i64 0, .int .i64 0]).cells (c * 4) = (cellsL (List.replicate c zFEl)).toArray := by
  have hl : (cellsL (List.replicate c zFEl)).length = c * 4 := by rw [cellsL_len]; simp
  apply Array.ext
  · rw [size_madeCells, List.size_toArray, hl]
  · intro j h1 h2
    rw [size_madeCells] at h1
    have hj : j < c * 4 := h1
    have hd : j / 4 < c := by omega
    have hx : (List.replicate c zFEl)[j / 4]? = some zFEl := by rw [List.getElem?_replicate, if_pos hd]
    have hg := cellsL_get hx (j % 4) (by omega)
    rw [show j / 4 * 4 + j % 4 = j by omega] at hg
    have hm : (madeCells (Value.agg #[.slice none 0 0, .int .i64 0, .int .i64 0, .int .i64 0]).cells (c * 4))[j] = (#[.slice none 0 0, .int .i64 0, .int .i64 0, .int .i64 0] : Array Value)[j % 4]! := by
      simp only [madeCells, Array.getElem_map, Array.getElem_range]
      rfl
    rw [hm, List.getElem_toArray]
    apply Option.some.inj
    rw [← List.getElem?_eq_getElem, hg]
    have h4 : j % 4 = 0 ∨ j % 4 = 1 ∨ j % 4 = 2 ∨ j % 4 = 3 := by omega
    rcases h4 with h | h | h | h <;> rw [h] <;> rfl
theorem make_fod {P : Program} {t e : TypeId} (ht : P.underlying t = some (.slice e)) (hi : (P.info? e).map (fun i => (i.zero, i.size, i.bytes)) = some (some (.agg #[.slice none 0 0, .int .i64 0, .int .i64 0, .int .i64 0]), 4, 48)) (n c : Nat) (hnc : n ≤ c) (hn : c ≤ 4194304) (w : World) :
    (Instr.makeSlice t (.int .i64 (n : Int)) (.int .i64 (c : Int))).run P w = .ok (.slice (some ⟨w.heap.size, 0, none⟩) n c) (w.alloc (.cells (cellsL (List.replicate c zFEl)).toArray e)) := by
  obtain ⟨i, hi0, hz, hs, hb⟩ := info_parts hi
  have hr := run_make (P := P) w t e i _ ht hi0 hz .i64 .i64 n c (by omega) (by omega) (by rw [hb]; omega) (by omega)
  rw [hs] at hr
  simp only [Int.toNat_natCast] at hr
  rw [hr]
  have : madeCells (Value.agg #[.slice none 0 0, .int .i64 0, .int .i64 0, .int .i64 0]).cells (c * 4) = (cellsL (List.replicate c zFEl)).toArray := made4 c
  rw [this]
/-- The list on its way: the first k laid, the rest still zero. -/
def fillE (ls : List El) (k : Nat) : List El := ls.take k ++ List.replicate (ls.length - k) zEl
theorem fillE_zero (ls : List El) : fillE ls 0 = List.replicate ls.length zEl := by simp [fillE]
theorem fillE_end (ls : List El) : fillE ls ls.length = ls := by simp [fillE]
theorem fillE_step {ls : List El} {k : Nat} {x : El} (h : ls[k]? = some x) : (fillE ls k).set k x = fillE ls (k + 1) := by
  have hk := (List.getElem?_eq_some_iff.1 h).1
  obtain ⟨m, hm⟩ : ∃ m, ls.length - k = m + 1 := ⟨ls.length - k - 1, by omega⟩
  have hl : (ls.take k).length = k := by rw [List.length_take]; omega
  unfold fillE
  rw [List.set_append_right _ _ (by omega), hl, Nat.sub_self, hm, List.replicate_succ, List.set_cons_zero, List.take_add_one, h, show ls.length - (k + 1) = m by omega]
  simp

/-! ### what a call that appends to a fodder leaves alone -/
/-- w' is w but for block p, for row r (of element type R), and for what is new. -/
structure Fr (R : TypeId) (p r : Option Nat) (w w' : World) : Prop where
  os : w'.os = w.os
  tape : w'.tape = w.tape
  output : w'.output = w.output
  size : w.heap.size ≤ w'.heap.size
  block : ∀ k, k < w.heap.size → some k ≠ p → some k ≠ r → w'.heap[k]? = w.heap[k]?
  row : ∀ g, r = some g → ∃ cs, Blk w g R cs
section
variable {S T R PT base : Nat} {p r : Option Nat} {w w' : World} {v : Value} {ls : List El}
theorem Fr.blk (h : Fr R p r w w') {k t : Nat} {cs : Array Value} (hb : Blk w k t cs) (hp : some k ≠ p) (hr : some k ≠ r) : Blk w' k t cs := (h.block k hb.lt hp hr).trans hb
theorem Fr.other (h : Fr R p r w w') {k t : Nat} {cs : Array Value} (hb : Blk w k t cs) (hp : some k ≠ p) (ht : t ≠ R) : Blk w' k t cs := h.blk hb hp fun e => by
  obtain ⟨cs', hb'⟩ := h.row k e.symm
  exact hb.ne_ hb' ht rfl
/-- A row of another element type, or of another block, is as it was. -/
theorem Fodd.fr_other (h : Fodd S T base w v ls) (hf : Fr R p r w w') (hS : S ≠ R) (hT : T ≠ R) (hpS : ∀ k cs, Blk w k S cs → some k ≠ p) (hpT : ∀ k cs, Blk w k T cs → some k ≠ p) : Fodd S T base w' v ls :=
  h.moved hf.size (fun k cs hk => hf.other hk (hpS k cs hk) hS) fun g cs hg hk => hf.other hk (hpT g cs hk) hT
theorem Fodd.fr_row (h : Fodd S T base w v ls) (hf : Fr R p r w w') (hS : S ≠ R) (hpS : ∀ k cs, Blk w k S cs → some k ≠ p) (hpT : ∀ k cs, Blk w k T cs → some k ≠ p) (hr : ∀ g, v.ownBlock = some g → some g ≠ r) : Fodd S T base w' v ls :=
  h.moved hf.size (fun k cs hk => hf.other hk (hpS k cs hk) hS) fun g cs hg hk => hf.blk hk (hpT g cs hk) (hr g hg)
theorem ne_p {q : Nat} {ps : Array Value} (hq : Blk w q PT ps) (hne : T ≠ PT) : ∀ k cs, Blk w k T cs → some k ≠ some q := fun k cs hk e => by
  injection e with e
  exact hk.ne_ hq hne e
theorem ne_none : ∀ k cs, Blk w k T cs → some k ≠ none := fun k cs hk e => by cases e
theorem below_fr {a : World} {B : Nat} (h : Below B a w) (hf : Fr R p r w w') (hB : B ≤ w.heap.size) (hp : ∀ g, p = some g → B ≤ g) (hr : ∀ g, r = some g → B ≤ g) : Below B a w' :=
  h.trans ⟨hf.os, hf.tape, hf.output, hf.size, fun k hk => hf.block k (by omega) (fun e => by have := hp k e.symm; omega) (fun e => by have := hr k e.symm; omega)⟩
theorem Fr.of_below (hb : Below w.heap.size w w') (hr : ∀ g, r = some g → ∃ cs, Blk w g R cs) : Fr R p r w w' := ⟨hb.os, hb.tape, hb.output, hb.size, fun k hk _ _ => hb.block k hk, hr⟩
theorem Fr.of_grown (hg : w.grownBy w' r) (hr : ∀ g, r = some g → ∃ cs, Blk w g R cs) : Fr R p r w w' := ⟨hg.os, hg.tape, hg.output, hg.size, fun k hk _ h2 => hg.block k hk h2, hr⟩
/-- One step behind another: the second row is the first or new. -/
theorem Fr.trans {w1 : World} {r1 : Option Nat} (h : Fr R p r w w1) (k : Fr R p r1 w1 w') (hr : ∀ g, r1 = some g → g < w.heap.size → r = some g) : Fr R p r w w' :=
  ⟨k.os.trans h.os, k.tape.trans h.tape, k.output.trans h.output, Nat.le_trans h.size k.size, fun i hi hp hne => (k.block i (Nat.lt_of_lt_of_le hi h.size) hp (fun e => hne (hr i e.symm hi).symm)).trans (h.block i hi hp hne), h.row⟩
theorem Fr.below_after {w1 : World} (h : Fr R p r w w1) (k : Below w1.heap.size w1 w') : Fr R p r w w' :=
  ⟨k.os.trans h.os, k.tape.trans h.tape, k.output.trans h.output, Nat.le_trans h.size k.size, fun i hi hp hne => (k.block i (Nat.lt_of_lt_of_le hi h.size)).trans (h.block i hi hp hne), h.row⟩
theorem Fr.set_p {q i : Nat} (h : Fr R (some q) r w w') (u : Value) : Fr R (some q) r w (w'.setCell ⟨q, i, none⟩ u) :=
  ⟨h.os, h.tape, h.output, by simpa [World.setCell] using h.size, fun k hk hp hne => (Below.heap_setCell w' ⟨q, i, none⟩ u k (fun e => hp (by rw [e]))).trans (h.block k hk hp hne), h.row⟩
end

section
variable {P : Program} {ops : Array Oper} {Q : Exit → Act → World → Prop} {rst : List Oper} {o : Oper} {a : Act} {w : World}
theorem news4 (w : World) (T H : Nat) (hH : w.heap.size = H) (v0 v1 v2 v3 : Value) : ∀ j u, [v0, v1, v2, v3][j]? = some u → (w.alloc (.cells #[v0, v1, v2, v3] T)).cell? (Addr.add ⟨H, 0, none⟩ j) = some u := by
  subst hH
  intro j u hu
  have h := (Blk.new w T #[v0, v1, v2, v3]).cell j
  have fix : (⟨w.heap.size, 0, none⟩ : Addr).add j = ⟨w.heap.size, j, none⟩ := by
    unfold Addr.add
    split
    · rename_i h0; subst h0; rfl
    · simp
  rw [fix, h]
  simpa using hu
/-- 'append' of one element to a fodder of the call's own. -/
theorem wp_append_fod {K : Act → World → Prop} (s x : Operand) (t : TypeId) (hop : o.op = Op.call { callee := Callee.builtin Builtin.append, args := #[s, x], argTypes := #[t, t] })
    (S R : TypeId) (hSR : S ≠ R) (ht : P.underlying t = some (.slice R)) (hi : (P.info? R).map (fun i => (i.zero, i.size, i.bytes)) = some (some (.agg #[.slice none 0 0, .int .i64 0, .int .i64 0, .int .i64 0]), 4, 48))
    (base : Nat) (v : Value) (ls : List El) (ca : Option Addr) (cl cc : Nat) (cs : List ByteArray) (kd bl idt : Int) (ad : Addr) (c : Nat) (hs : a.eval s = v) (hR : Fodd S R base w v ls) (hx : a.eval x = .slice (some ad) 1 c) (hy : IsEl S w ⟨ca, cl, cc, cs, kd, bl, idt⟩)
    (hc : ∀ j u, [.slice ca cl cc, .int .i64 kd, .int .i64 bl, .int .i64 idt][j]? = some u → w.cell? (ad.add j) = some u) (hl : ls.length ≤ 4194304) (hbase : base ≤ w.heap.size)
    (hK : ∀ v' w', Fodd S R base w' v' (ls ++ [⟨ca.isNone, cs, kd, bl, idt⟩]) → w.grownBy w' v.ownBlock → (v'.ownBlock = v.ownBlock ∨ v'.ownBlock = some w.heap.size) → K (a.put o.dst v') w') : o.wp P a w K Q := by
  obtain ⟨i, hi0, hz0, hz1, hz2⟩ := info_parts hi
  obtain ⟨fs, h1, h2, h3⟩ := hR
  have hfl : fs.length = ls.length := by rw [← h3]; simp
  obtain ⟨v', w', hrun, hown, hgr, _, hlies⟩ := run_append_own_at (P := P) w base t o.type R i _ 4 48 ht hi0 hz0 hz1 hz2 rfl (by decide) v fs.length (cellsL fs) h1 ad 1 c (FEl.vals ⟨ca, cl, cc, cs, kd, bl, idt⟩) rfl hc (fun u hu => cellsL_one hu) (by unfold maxLen; omega) (by omega) hbase
  unfold Oper.wp
  simp only [execOp, hop, resolve, invoke, builtin, Sem.run_bind, Sem.run_pure, Result.andThen_ok, List.map_toArray, List.map_cons, List.map_nil, hs, hx, hrun]
  refine hK v' w' ⟨fs ++ [⟨ca, cl, cc, cs, kd, bl, idt⟩], ?_, ?_, ?_⟩ hgr hlies
  · rw [cellsL_append]
    simpa [cellsL] using hown
  · have hk : ∀ k cs, Blk w k S cs → Blk w' k S cs := fun k cs hk => (hgr.block k hk.lt (fun e => by
      obtain ⟨cs', hb'⟩ := own_blk h1 e.symm
      exact hk.ne_ hb' hSR rfl)).trans hk
    intro z hz
    refine IsEl.kept ?_ hgr.size hk
    rcases List.mem_append.1 hz with h | h
    · exact h2 z h
    · simp at h; rw [h]; exact hy
  · rw [List.map_append, h3]; rfl
theorem wpList_append_fod (hg : o.guard = none) (s x : Operand) (t : TypeId) (hop : o.op = Op.call { callee := Callee.builtin Builtin.append, args := #[s, x], argTypes := #[t, t] })
    (S R : TypeId) (hSR : S ≠ R) (ht : P.underlying t = some (.slice R)) (hi : (P.info? R).map (fun i => (i.zero, i.size, i.bytes)) = some (some (.agg #[.slice none 0 0, .int .i64 0, .int .i64 0, .int .i64 0]), 4, 48))
    (base : Nat) (v : Value) (ls : List El) (ca : Option Addr) (cl cc : Nat) (cs : List ByteArray) (kd bl idt : Int) (ad : Addr) (c : Nat) (hs : a.eval s = v) (hR : Fodd S R base w v ls) (hx : a.eval x = .slice (some ad) 1 c) (hy : IsEl S w ⟨ca, cl, cc, cs, kd, bl, idt⟩)
    (hc : ∀ j u, [.slice ca cl cc, .int .i64 kd, .int .i64 bl, .int .i64 idt][j]? = some u → w.cell? (ad.add j) = some u) (hl : ls.length ≤ 4194304) (hbase : base ≤ w.heap.size)
    (hK : ∀ v' w', Fodd S R base w' v' (ls ++ [⟨ca.isNone, cs, kd, bl, idt⟩]) → w.grownBy w' v.ownBlock → (v'.ownBlock = v.ownBlock ∨ v'.ownBlock = some w.heap.size) → wpList P ops Q rst (a.put o.dst v') w') : wpList P ops Q (o :: rst) a w :=
  wpList_plain hg fun K hK' => wp_append_fod s x t hop S R hSR ht hi base v ls ca cl cc cs kd bl idt ad c hs hR hx hy hc hl hbase fun v' w' h1 h2 h3 => hK' _ _ (hK v' w' h1 h2 h3)
theorem step_append_fod {K : Act → World → Prop} {E : Prop} (hg : o.guard = none) (s x : Operand) (t : TypeId) (hop : o.op = Op.call { callee := Callee.builtin Builtin.append, args := #[s, x], argTypes := #[t, t] })
    (S R : TypeId) (hSR : S ≠ R) (ht : P.underlying t = some (.slice R)) (hi : (P.info? R).map (fun i => (i.zero, i.size, i.bytes)) = some (some (.agg #[.slice none 0 0, .int .i64 0, .int .i64 0, .int .i64 0]), 4, 48))
    (base : Nat) (v : Value) (ls : List El) (ca : Option Addr) (cl cc : Nat) (cs : List ByteArray) (kd bl idt : Int) (ad : Addr) (c : Nat) (hs : a.eval s = v) (hR : Fodd S R base w v ls) (hx : a.eval x = .slice (some ad) 1 c) (hy : IsEl S w ⟨ca, cl, cc, cs, kd, bl, idt⟩)
    (hc : ∀ j u, [.slice ca cl cc, .int .i64 kd, .int .i64 bl, .int .i64 idt][j]? = some u → w.cell? (ad.add j) = some u) (hl : ls.length ≤ 4194304) (hbase : base ≤ w.heap.size)
    (hK : ∀ v' w', Fodd S R base w' v' (ls ++ [⟨ca.isNone, cs, kd, bl, idt⟩]) → w.grownBy w' v.ownBlock → (v'.ownBlock = v.ownBlock ∨ v'.ownBlock = some w.heap.size) → K (a.put o.dst v') w') : if Region.wanted o (yielded ops a.tmps) = true then Oper.wp P o a w K Q else E := by
  have hw : Region.wanted o (yielded ops a.tmps) = true := by simp [Region.wanted, hg]
  rw [if_pos hw]
  exact wp_append_fod s x t hop S R hSR ht hi base v ls ca cl cc cs kd bl idt ad c hs hR hx hy hc hl hbase hK
end
end Go.Proofs.Ytdmlaofjckopgaa
