/- Slices of elements that hold a slice of strings and three ints (fodder elements), as they come in. Over any program. -/
import Derived.Test.YtdmlaofjckopgaaCommon
import Derived.Deep.Slices
import Derived.Deep.Fields
import Derived.ChangeSame
import Derived.Lib.SmallJoins
namespace Go.Proofs.Ytdmlaofjckopgaa
open Go.ChangeShapes Go.WideShapes Go.ChangeAt Go.RowKit Go.Deep Go.Joins

/-- One element: where its comment lies, what the comment reads as, its three numbers. -/
structure FEl where
  ca : Option Addr
  clen : Nat
  ccap : Nat
  cs : List ByteArray
  kind : Int
  blanks : Int
  indent : Int
def FEl.agg (x : FEl) : Value := .agg #[.slice x.ca x.clen x.ccap, .int .i64 x.kind, .int .i64 x.blanks, .int .i64 x.indent]
structure IsFE (w : World) (x : FEl) : Prop where
  strs : IsStrs w x.ca x.clen x.ccap x.cs
  wk : (Lit.int .i64 x.kind).wf = true
  wb : (Lit.int .i64 x.blanks).wf = true
  wi : (Lit.int .i64 x.indent).wf = true
structure IsFEs (w : World) (a : Option Addr) (n cap : Nat) (fs : List FEl) : Prop where
  len : fs.length = n
  lecap : n ≤ cap
  capmax : cap ≤ maxLen
  nil : a = none → n = 0
  elems : ∀ (k : Nat) (x : FEl), fs[k]? = some x → IsFE w x
  cells : 0 < n → ∃ b off, a = some ⟨b, off, none⟩ ∧ b < w.heap.size ∧ ∀ (k : Nat) (x : FEl), fs[k]? = some x →
    w.cell? ⟨b, off + k * 4, none⟩ = some (.slice x.ca x.clen x.ccap) ∧ w.cell? ⟨b, off + k * 4 + 1, none⟩ = some (.int .i64 x.kind) ∧ w.cell? ⟨b, off + k * 4 + 2, none⟩ = some (.int .i64 x.blanks) ∧ w.cell? ⟨b, off + k * 4 + 3, none⟩ = some (.int .i64 x.indent)
/-- No comment of the first n elements has more than 1<<20 lines. -/
def FEsUpto (fs : List FEl) (n : Nat) : Prop := ∀ (k : Nat) (x : FEl), k < n → fs[k]? = some x → x.clen ≤ 1048576

theorem FEsUpto.zero (fs : List FEl) : FEsUpto fs 0 := fun k x hk => absurd hk (by omega)
theorem FEsUpto.step {fs : List FEl} {n : Nat} {x : FEl} (h : FEsUpto fs n) (hx : fs[n]? = some x) (hc : x.clen ≤ 1048576) : FEsUpto fs (n + 1) := fun k y hk hy => by
  rcases Nat.lt_succ_iff_lt_or_eq.1 hk with hk' | rfl
  · exact h k y hk' hy
  · rw [hx] at hy; injection hy with hy; subst hy; exact hc

theorem IsFE.keep {w w' : World} {x : FEl} (h : IsFE w x) (hb : Below w.heap.size w w') : IsFE w' x := ⟨h.strs.keep hb, h.wk, h.wb, h.wi⟩
theorem IsFEs.keep {w w' : World} {a : Option Addr} {n cap : Nat} {fs : List FEl} (h : IsFEs w a n cap fs) (hb : Below w.heap.size w w') : IsFEs w' a n cap fs :=
  ⟨h.len, h.lecap, h.capmax, h.nil, fun k x hx => (h.elems k x hx).keep hb, fun hn => by
    obtain ⟨b, off, e, hlt, hc⟩ := h.cells hn
    refine ⟨b, off, e, Nat.lt_of_lt_of_le hlt hb.size, fun k x hx => ?_⟩
    obtain ⟨c0, c1, c2, c3⟩ := hc k x hx
    exact ⟨(hb.cell (p := ⟨b, _, none⟩) hlt).trans c0, (hb.cell (p := ⟨b, _, none⟩) hlt).trans c1, (hb.cell (p := ⟨b, _, none⟩) hlt).trans c2, (hb.cell (p := ⟨b, _, none⟩) hlt).trans c3⟩⟩
theorem IsFEs.at_ {w : World} {a : Option Addr} {n cap : Nat} {fs : List FEl} (h : IsFEs w a n cap fs) {k : Nat} (hk : k < n) :
    ∃ b off x, a = some ⟨b, off, none⟩ ∧ b < w.heap.size ∧ fs[k]? = some x ∧ IsFE w x ∧
      w.cell? ⟨b, off + k * 4, none⟩ = some (.slice x.ca x.clen x.ccap) ∧ w.cell? ⟨b, off + k * 4 + 1, none⟩ = some (.int .i64 x.kind) ∧ w.cell? ⟨b, off + k * 4 + 2, none⟩ = some (.int .i64 x.blanks) ∧ w.cell? ⟨b, off + k * 4 + 3, none⟩ = some (.int .i64 x.indent) := by
  obtain ⟨b, off, e, hlt, hc⟩ := h.cells (by omega)
  have hk' : k < fs.length := by rw [h.len]; exact hk
  have hx := List.getElem?_eq_getElem hk'
  exact ⟨b, off, _, e, hlt, hx, h.elems k _ hx, hc k _ hx⟩

section
variable {H : Type} {enc : TypeId × Value → H} {P : Program} {w : World}
/-- A field's slice of strings, out of its own reading. -/
theorem strs_of_field {t e : TypeId} {fuel : Nat} {v : Value} {y : DataW H × List MemPlace} (ht : P.underlying t = some (.slice e)) (he : P.underlying e = some .string) (hc : P.cellsOf e = 1)
    (h : DataW.trod enc P w 0 (fun _ => true) true fuel t [v] = some y) : ∃ a n cap ss, v = .slice a n cap ∧ IsStrs w a n cap ss := by
  have key : ∃ a n cap, v = .slice a n cap := by
    rcases open_strings ht he hc h with ⟨hcs, _⟩ | ⟨x, l, c, ss, hcs, _⟩
    · injection hcs with hv; exact ⟨none, 0, 0, hv⟩
    · injection hcs with hv; exact ⟨some x, l, c, hv⟩
  obtain ⟨a, n, cap, rfl⟩ := key
  obtain ⟨ss, hss⟩ := strs_of_trod (enc := enc) (d := y.1) (p := y.2) (a := a) (n := n) (cap := cap) ht he hc ⟨fuel, by simpa [Value.cells] using h⟩
  exact ⟨a, n, cap, ss, rfl, hss⟩
theorem int_of_field {t : TypeId} {fuel : Nat} {v : Value} {y : DataW H × List MemPlace} (ht : P.underlying t = some (.int .i64)) (h : DataW.trod enc P w 0 (fun _ => true) true fuel t [v] = some y) : ∃ n, v = .int .i64 n ∧ (Lit.int .i64 n).wf = true := by
  obtain ⟨n, hv, _, hw⟩ := DataW.trod_int ht h
  injection hv with hv
  exact ⟨n, hv, hw⟩
theorem fes_of_trod {t e tc ec tk : TypeId} {f0 f1 f2 f3 : Field} {a : Option Addr} {n cap : Nat} {d : DataW H} {p : List MemPlace} (ht : P.underlying t = some (.slice e)) (he : P.underlying e = some (.struct #[f0, f1, f2, f3]))
    (hone : oneCellFields P #[f0, f1, f2, f3] = true) (hC : P.cellsOf e = 4) (htc : P.underlying tc = some (.slice ec)) (hec : P.underlying ec = some .string) (hcc : P.cellsOf ec = 1) (htk : P.underlying tk = some (.int .i64))
    (hf : f0.type = tc ∧ f1.type = tk ∧ f2.type = tk ∧ f3.type = tk) (h : DataW.Trod enc P w 0 (fun _ => true) true t (.slice a n cap) d p) : ∃ fs, IsFEs w a n cap fs := by
  obtain ⟨fuel, hfu⟩ := h
  rcases open_slice ht hfu with ⟨hcs, _⟩ | ⟨x, len, cp, m, nn, D, Pl, hcs, hb, hl, hm, hmm, _, hi⟩
  · simp [Value.cells] at hcs
    obtain ⟨rfl, rfl, rfl⟩ := hcs
    exact ⟨[], rfl, Nat.le_refl _, Nat.zero_le _, (fun _ => rfl), (fun k x hx => by simp at hx), fun hn => absurd hn (by omega)⟩
  · simp [Value.cells] at hcs
    obtain ⟨rfl, rfl, rfl⟩ := hcs
    have hmm' : m = cap := by simpa using hmm
    subst hmm'
    -- each element
    have each : ∀ i, i < n → ∃ y : FEl, IsFE w y ∧ w.cell? (x.add (i * 4)) = some (.slice y.ca y.clen y.ccap) ∧ w.cell? (x.add (i * 4 + 1)) = some (.int .i64 y.kind) ∧ w.cell? (x.add (i * 4 + 2)) = some (.int .i64 y.blanks) ∧ w.cell? (x.add (i * 4 + 3)) = some (.int .i64 y.indent) := by
      intro i him
      obtain ⟨cs', hc, ht'⟩ := hi i (by omega)
      rw [hC] at hc
      obtain ⟨ys, n', hn', hy, hlen, hyl, hfd⟩ := DataW.trod_struct he ht'
      obtain ⟨_, hcl, hat⟩ := World.cells?_some hc
      have field : ∀ (j : Nat) (f : Field), #[f0, f1, f2, f3][j]? = some f → ∃ v y, w.cell? (x.add (i * 4 + j)) = some v ∧ DataW.trod enc P w 0 (fun _ => true) true n' f.type [v] = some y := by
        intro j f hj
        obtain ⟨ho, hk⟩ := hone_of hone j f hj
        have hjl : j < 4 := (Array.getElem?_eq_some_iff.1 hj).1
        have hcell := hat j hjl
        have hv : cs'[j]? = some (cs'[j]'(by omega)) := List.getElem?_eq_getElem (by omega)
        have h1 := hfd j f hj
        rw [ho, hk] at h1
        have hone' : (cs'.drop j).take 1 = [cs'[j]'(by omega)] := by
          rw [List.drop_eq_getElem_cons (by omega)]
          rfl
        rw [hone'] at h1
        have hyl' : ys.length = 4 := by simpa using hyl
        have hys : ys[j]? = some (ys[j]'(by omega)) := List.getElem?_eq_getElem (by omega)
        refine ⟨_, _, ?_, h1.trans hys⟩
        rw [← Go.Deep.add_add, hcell, hv]
      obtain ⟨v0, y0, hc0, hr0⟩ := field 0 f0 rfl
      obtain ⟨v1, y1, hc1, hr1⟩ := field 1 f1 rfl
      obtain ⟨v2, y2, hc2, hr2⟩ := field 2 f2 rfl
      obtain ⟨v3, y3, hc3, hr3⟩ := field 3 f3 rfl
      rw [hf.1] at hr0
      rw [hf.2.1] at hr1
      rw [hf.2.2.1] at hr2
      rw [hf.2.2.2] at hr3
      obtain ⟨a', n'', cap', ss, rfl, hss⟩ := strs_of_field htc hec hcc hr0
      obtain ⟨k1, rfl, wk⟩ := int_of_field htk hr1
      obtain ⟨k2, rfl, wb⟩ := int_of_field htk hr2
      obtain ⟨k3, rfl, wi⟩ := int_of_field htk hr3
      exact ⟨⟨a', n'', cap', ss, k1, k2, k3⟩, ⟨hss, wk, wb, wi⟩, by simpa using hc0, hc1, hc2, hc3⟩
    obtain ⟨F, hF⟩ : ∃ F : Nat → FEl, ∀ i, i < n → IsFE w (F i) ∧ w.cell? (x.add (i * 4)) = some (.slice (F i).ca (F i).clen (F i).ccap) ∧ w.cell? (x.add (i * 4 + 1)) = some (.int .i64 (F i).kind) ∧ w.cell? (x.add (i * 4 + 2)) = some (.int .i64 (F i).blanks) ∧ w.cell? (x.add (i * 4 + 3)) = some (.int .i64 (F i).indent) :=
      ⟨fun i => if h : i < n then Classical.choose (each i h) else ⟨none, 0, 0, [], 0, 0, 0⟩, fun i hi' => by simp only [dif_pos hi']; exact Classical.choose_spec (each i hi')⟩
    have hget : ∀ (k : Nat) (y : FEl), ((List.range n).map F)[k]? = some y → k < n ∧ y = F k := by
      intro k y hy
      have hk : k < n := by
        have h0 := (List.getElem?_eq_some_iff.1 hy).1
        simpa using h0
      rw [List.getElem?_map, List.getElem?_range hk] at hy
      exact ⟨hk, (Option.some.inj hy).symm⟩
    refine ⟨(List.range n).map F, by simp, hl, hm, (fun h => by cases h), fun k y hy => ?_, fun hn => ?_⟩
    · obtain ⟨hk, rfl⟩ := hget k y hy
      exact (hF k hk).1
    · obtain ⟨b, off, spot⟩ := x
      have h0 := (hF 0 hn).2.1
      have hspot : spot = none := by simpa [Addr.add] using World.cell?_spot h0
      subst hspot
      have hlt : b < w.heap.size := by simpa [Addr.add] using lt_of_cell h0
      refine ⟨b, off, rfl, hlt, fun k y hy => ?_⟩
      obtain ⟨hk, rfl⟩ := hget k y hy
      obtain ⟨_, c0, c1, c2, c3⟩ := hF k hk
      have fix : ∀ j : Nat, (⟨b, off, none⟩ : Addr).add j = ⟨b, off + j, none⟩ := fun j => by
        unfold Addr.add
        split
        · rename_i h0; subst h0; rfl
        · rfl
      rw [fix] at c0 c1 c2 c3
      exact ⟨c0, by rw [← c1, Nat.add_assoc], by rw [← c2, Nat.add_assoc], by rw [← c3, Nat.add_assoc]⟩
theorem fe_of_trod {r : Reach} {b0 : Nat} {t tc ec tk : TypeId} {f0 f1 f2 f3 : Field} {v : Value} {d : DataW H} {p : List MemPlace} (he : P.underlying t = some (.struct #[f0, f1, f2, f3])) (hone : oneCellFields P #[f0, f1, f2, f3] = true) (hC : P.cellsOf t = 4)
    (htc : P.underlying tc = some (.slice ec)) (hec : P.underlying ec = some .string) (hcc : P.cellsOf ec = 1) (htk : P.underlying tk = some (.int .i64)) (hf : f0.type = tc ∧ f1.type = tk ∧ f2.type = tk ∧ f3.type = tk)
    (hv : Value.okWide P w r b0 t v) (h : DataW.Trod enc P w 0 (fun _ => true) true t v d p) : ∃ x : FEl, v = x.agg ∧ IsFE w x := by
  obtain ⟨v0, v1, v2, v3, y0, y1, y2, y3, n, rfl, _, _, hr0, hr1, hr2, hr3⟩ := open_agg4 he hone hC hv h
  rw [hf.1] at hr0
  rw [hf.2.1] at hr1
  rw [hf.2.2.1] at hr2
  rw [hf.2.2.2] at hr3
  obtain ⟨a', n'', cap', ss, rfl, hss⟩ := strs_of_field htc hec hcc hr0
  obtain ⟨k1, rfl, wk⟩ := int_of_field htk hr1
  obtain ⟨k2, rfl, wb⟩ := int_of_field htk hr2
  obtain ⟨k3, rfl, wi⟩ := int_of_field htk hr3
  exact ⟨⟨a', n'', cap', ss, k1, k2, k3⟩, rfl, ⟨hss, wk, wb, wi⟩⟩
end
end Go.Proofs.Ytdmlaofjckopgaa
