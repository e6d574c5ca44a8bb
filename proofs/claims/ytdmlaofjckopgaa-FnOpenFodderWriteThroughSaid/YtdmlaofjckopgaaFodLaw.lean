/- Plain laws of fodders as lists: appending one element, joining two, order and form. No program. -/
import Derived.RowKit
namespace Go.Proofs.Ytdmlaofjckopgaa
open Go.RowKit

/-- One element as plain data. -/
structure El where
  nl : Bool
  cs : List ByteArray
  kind : Int
  blanks : Int
  indent : Int
/-- Not empty, and the last element is no interstitial. -/
def closed (l : List El) : Bool := match l.getLast? with
  | some x => !(x.kind == 1)
  | none => false
theorem closed_nil : closed [] = false := rfl
theorem closed_snoc (l : List El) (x : El) : closed (l ++ [x]) = !(x.kind == 1) := by simp [closed]
theorem closed_append (l : List El) {r : List El} (h : r ≠ []) : closed (l ++ r) = closed r := by
  rcases List.eq_nil_or_concat r with e | ⟨r', x, rfl⟩
  · exact absurd e h
  · rw [List.concat_eq_append, ← List.append_assoc, closed_snoc, closed_snoc]
theorem closed_ne {l : List El} (h : closed l = true) : l ≠ [] := by rintro rfl; cases h
/-- The element with another element's indent, and that one's blanks added to its own. -/
def mrg (x e : El) : El := ⟨x.nl, x.cs, x.kind, wrap64 (x.blanks + e.blanks), e.indent⟩
/-- What is added behind a fodder whose end is not merged. -/
def tailOf (c : Bool) (e : El) : List El :=
  if c = true ∧ e.kind = 0 then [⟨e.nl, e.cs, 2, e.blanks, e.indent⟩] else if c = false ∧ e.kind = 2 then [⟨false, [], 0, 0, e.indent⟩, e] else [e]
/-- Is the element merged into the last one? -/
def Mrgs (l : List El) (e : El) : Prop := closed l = true ∧ e.kind = 0 ∧ e.cs.length = 0
instance (l : List El) (e : El) : Decidable (Mrgs l e) := inferInstanceAs (Decidable (_ ∧ _ ∧ _))
/-- FodderAppend on lists. -/
def app (l : List El) (e : El) : List El :=
  if Mrgs l e then (match l.getLast? with | some x => l.dropLast ++ [mrg x e] | none => l) else l ++ tailOf (closed l) e
theorem app_mrg {l : List El} {x e : El} (h : Mrgs (l ++ [x]) e) : app (l ++ [x]) e = l ++ [mrg x e] := by
  unfold app; rw [if_pos h]; simp
theorem app_tail {l : List El} {e : El} (h : ¬ Mrgs l e) : app l e = l ++ tailOf (closed l) e := by
  unfold app; rw [if_neg h]
theorem Mrgs.congr {l r : List El} {e : El} (h : closed l = closed r) : Mrgs l e ↔ Mrgs r e := by unfold Mrgs; rw [h]
theorem app_append (u : List El) {v : List El} (hv : v ≠ []) (e : El) : app (u ++ v) e = u ++ app v e := by
  have hc := closed_append u hv
  by_cases h : Mrgs v e
  · rcases List.eq_nil_or_concat v with e' | ⟨v', x, rfl⟩
    · exact absurd e' hv
    · rw [List.concat_eq_append] at *
      have h2 : Mrgs ((u ++ v') ++ [x]) e := by rw [List.append_assoc]; exact (Mrgs.congr hc).2 h
      rw [← List.append_assoc, app_mrg h2, app_mrg h, List.append_assoc]
  · rw [app_tail (fun h' => h ((Mrgs.congr hc).1 h')), app_tail h, hc, List.append_assoc]
theorem tailOf_ne (c : Bool) (e : El) : tailOf c e ≠ [] := by
  unfold tailOf; split
  · simp
  · split <;> simp
theorem closed_tailOf (c : Bool) (e : El) : closed (tailOf c e) = !(e.kind == 1) := by
  unfold tailOf
  split
  · rename_i h; simp [closed, h.2]
  · split <;> simp [closed]
theorem closed_app (l : List El) (e : El) : closed (app l e) = !(e.kind == 1) := by
  by_cases h : Mrgs l e
  · rcases List.eq_nil_or_concat l with rfl | ⟨l', x, rfl⟩
    · cases h.1
    · rw [List.concat_eq_append] at *
      have h1 := h.1
      rw [closed_snoc] at h1
      rw [app_mrg h, closed_snoc, h.2.1]
      simpa [mrg] using h1
  · rw [app_tail h, closed_append _ (tailOf_ne _ _), closed_tailOf]
theorem app_ne (l : List El) (e : El) : app l e ≠ [] := by
  by_cases h : Mrgs l e
  · rcases List.eq_nil_or_concat l with rfl | ⟨l', x, rfl⟩
    · cases h.1
    · rw [List.concat_eq_append] at *
      rw [app_mrg h]; simp
  · rw [app_tail h]; simp [tailOf_ne]
/-- FodderConcat on lists. -/
def cat : List El → List El → List El
  | [], b => b
  | a :: s, [] => a :: s
  | a :: s, x :: r => app (a :: s) x ++ r
theorem cat_nil (a : List El) : cat a [] = a := by cases a <;> rfl
theorem nil_cat (b : List El) : cat [] b = b := rfl
theorem cat_cons {a : List El} (h : a ≠ []) (x : El) (r : List El) : cat a (x :: r) = app a x ++ r := by
  cases a with
  | nil => exact absurd rfl h
  | cons y s => rfl

/-! ### order -/
def okAt (l : List El) (i : Nat) (x : El) : Prop := (x.kind = 0 → closed (l.take i) = false) ∧ (x.kind = 2 → closed (l.take i) = true)
/-- A line end stands first or behind an interstitial; a paragraph neither first nor behind an interstitial. -/
def Wo (l : List El) : Prop := ∀ i x, l[i]? = some x → okAt l i x
def fits (l : List El) (x : El) : Prop := (x.kind = 0 → closed l = false) ∧ (x.kind = 2 → closed l = true)
theorem wo_snoc {l : List El} {x : El} : Wo (l ++ [x]) ↔ Wo l ∧ fits l x := by
  constructor
  · intro h
    refine ⟨fun i y hy => ?_, ?_⟩
    · have hi := (List.getElem?_eq_some_iff.1 hy).1
      have := h i y (by rw [List.getElem?_append_left hi]; exact hy)
      unfold okAt at this ⊢
      rwa [List.take_append_of_le_length (by omega)] at this
    · have := h l.length x (by simp)
      unfold okAt at this
      rwa [List.take_left' rfl] at this
  · rintro ⟨h, hx⟩ i y hy
    rcases Nat.lt_or_ge i l.length with hi | hi
    · rw [List.getElem?_append_left hi] at hy
      have := h i y hy
      unfold okAt at this ⊢
      rwa [List.take_append_of_le_length (by omega)]
    · rw [List.getElem?_append_right hi] at hy
      have hi2 : i - l.length = 0 := by
        rcases Nat.eq_zero_or_pos (i - l.length) with h0 | h0
        · exact h0
        · rw [List.getElem?_eq_none (by simp; omega)] at hy; cases hy
      rw [hi2] at hy
      have hy' : x = y := by simpa using hy
      have hi3 : i = l.length := by omega
      subst hy' hi3
      unfold okAt
      rw [List.take_left' rfl]
      exact hx
theorem wo_nil : Wo [] := fun i x h => by simp at h
theorem app_fits {l : List El} {x : El} (h : fits l x) : app l x = l ++ [x] := by
  have hm : ¬ Mrgs l x := fun hm => by have := h.1 hm.2.1; rw [hm.1] at this; cases this
  rw [app_tail hm]
  unfold tailOf
  rw [if_neg (fun hh => by have := h.1 hh.2; rw [hh.1] at this; cases this), if_neg (fun hh => by have := h.2 hh.2; rw [hh.1] at this; cases this)]
theorem closed_cons (x : El) (r : List El) : closed (x :: r) = if r = [] then !(x.kind == 1) else closed r := by
  cases r with
  | nil => simp [closed]
  | cons y s => rw [show x :: y :: s = [x] ++ (y :: s) from rfl, closed_append _ (by simp), if_neg (by simp)]
/-- Appending the rest of an ordered fodder one by one, behind anything whose end is as the part's before it. -/
theorem fold_rest (r : List El) : ∀ (l p : List El), Wo (p ++ r) → closed l = closed p → r.foldl app l = l ++ r := by
  induction r with
  | nil => intro l p _ _; simp
  | cons x r ih =>
    intro l p hw hc
    have hw' : Wo ((p ++ [x]) ++ r) := by rw [List.append_assoc]; exact hw
    have hx : fits p x := by
      have := hw p.length x (by simp)
      unfold okAt at this
      rwa [List.take_left' rfl] at this
    have hx' : fits l x := by unfold fits at hx ⊢; rw [hc]; exact hx
    rw [List.foldl_cons, app_fits hx', ih (l ++ [x]) (p ++ [x]) hw' (by rw [closed_snoc, closed_snoc]), List.append_assoc]
    rfl
/-- FodderConcat is the fold of FodderAppend, for an ordered second fodder. -/
theorem cat_fold (a b : List El) (h : Wo b) : cat a b = b.foldl app a := by
  cases a with
  | nil => rw [nil_cat, fold_rest b [] [] h rfl]; rfl
  | cons y s =>
    cases b with
    | nil => rfl
    | cons x r =>
      rw [cat_cons (by simp), List.foldl_cons]
      exact (fold_rest r (app (y :: s) x) [x] h (by rw [closed_app]; simp [closed])).symm
theorem wrap_assoc (a b c : Int) : wrap64 (wrap64 (a + b) + c) = wrap64 (a + wrap64 (b + c)) := by unfold wrap64; omega
theorem mrg_mrg (x y z : El) : mrg (mrg x y) z = mrg x (mrg y z) := by simp [mrg, wrap_assoc]
/-- Moving b and then c to the front is moving the two joined. -/
theorem cat_assoc (a b c : List El) (hb : Wo b) : cat c (cat b a) = cat (cat c b) a := by
  cases c with
  | nil => rfl
  | cons c0 cr =>
    cases b with
    | nil => rw [nil_cat, cat_nil]
    | cons x r =>
      cases a with
      | nil => rw [cat_nil, cat_nil]
      | cons y s =>
        have hcn : c0 :: cr ≠ [] := by simp
        generalize c0 :: cr = c at hcn ⊢
        rw [cat_cons hcn x r, cat_cons (by simp : x :: r ≠ []) y s, cat_cons (by simp [app_ne]) y s]
        by_cases hr : r = []
        · subst hr
          rw [List.append_nil]
          have hx2 : x.kind ≠ 2 := fun h2 => by
            have := (hb 0 x rfl).2 h2
            cases this
          by_cases hm : Mrgs [x] y
          · have hc1 : closed [x] = closed (app c x) := by rw [closed_app]; simp [closed]
            have hm2 : Mrgs (app c x) y := (Mrgs.congr hc1).1 hm
            have e1 : app [x] y = [mrg x y] := app_mrg (l := []) hm
            rw [e1]
            show cat c (mrg x y :: s) = _
            rw [cat_cons hcn]
            congr 1
            by_cases hmc : Mrgs c x
            · rcases List.eq_nil_or_concat c with rfl | ⟨c', z, rfl⟩
              · exact absurd rfl hcn
              · rw [List.concat_eq_append] at *
                have hmc' : Mrgs (c' ++ [z]) (mrg x y) := hmc
                rw [app_mrg hmc] at hm2 ⊢
                rw [app_mrg hmc', app_mrg hm2, mrg_mrg]
            · have hmc' : ¬ Mrgs c (mrg x y) := hmc
              rw [app_tail hmc] at hm2 ⊢
              rw [app_tail hmc']
              by_cases h0 : closed c = true ∧ x.kind = 0
              · have t1 : tailOf (closed c) x = [⟨x.nl, x.cs, 2, x.blanks, x.indent⟩] := by unfold tailOf; rw [if_pos h0]
                have h0' : closed c = true ∧ (mrg x y).kind = 0 := h0
                have t2 : tailOf (closed c) (mrg x y) = [⟨x.nl, x.cs, 2, wrap64 (x.blanks + y.blanks), y.indent⟩] := by unfold tailOf; rw [if_pos h0']; rfl
                rw [t1] at hm2 ⊢
                rw [t2, app_mrg hm2]
                rfl
              · have t1 : tailOf (closed c) x = [x] := by unfold tailOf; rw [if_neg h0, if_neg (fun h => hx2 h.2)]
                have h0' : ¬ (closed c = true ∧ (mrg x y).kind = 0) := h0
                have h2' : ¬ (closed c = false ∧ (mrg x y).kind = 2) := fun h => hx2 h.2
                have t2 : tailOf (closed c) (mrg x y) = [mrg x y] := by unfold tailOf; rw [if_neg h0', if_neg h2']
                rw [t1] at hm2 ⊢
                rw [t2, app_mrg hm2]
          · have hc1 : closed [x] = closed (app c x) := by rw [closed_app]; simp [closed]
            have hm2 : ¬ Mrgs (app c x) y := fun h => hm ((Mrgs.congr hc1).2 h)
            rw [app_tail hm, app_tail hm2, ← hc1]
            show cat c (x :: (tailOf (closed [x]) y ++ s)) = _
            rw [cat_cons hcn, List.append_assoc]
        · rw [show x :: r = [x] ++ r from rfl, app_append [x] hr y]
          show cat c (x :: (app r y ++ s)) = _
          rw [cat_cons hcn, app_append (app c x) hr y, List.append_assoc]

/-! ### form -/
def valid (x : El) : Prop := (x.kind = 0 ∧ x.cs.length ≤ 1) ∨ (x.kind = 1 ∧ x.cs.length = 1) ∨ (x.kind = 2 ∧ 1 ≤ x.cs.length)
def Wf (l : List El) : Prop := Wo l ∧ ∀ x ∈ l, valid x
def flat (l : List El) : List ByteArray := l.flatMap (·.cs)
theorem flat_append (a b : List El) : flat (a ++ b) = flat a ++ flat b := by simp [flat]
theorem flat_tailOf (c : Bool) (e : El) : flat (tailOf c e) = e.cs := by
  unfold tailOf
  split
  · simp [flat]
  · split <;> simp [flat]
theorem flat_app (l : List El) (e : El) : flat (app l e) = flat l ++ e.cs := by
  by_cases h : Mrgs l e
  · rcases List.eq_nil_or_concat l with rfl | ⟨l', x, rfl⟩
    · cases h.1
    · rw [List.concat_eq_append] at *
      have h0 : e.cs = [] := List.eq_nil_of_length_eq_zero h.2.2
      rw [app_mrg h, flat_append, flat_append, h0]
      simp [flat, mrg]
  · rw [app_tail h, flat_append, flat_tailOf]
theorem flat_cat (a b : List El) : flat (cat a b) = flat a ++ flat b := by
  cases a with
  | nil => rfl
  | cons y s =>
    cases b with
    | nil => simp [cat_nil, flat]
    | cons x r =>
      rw [cat_cons (by simp), flat_append, flat_app, List.append_assoc]
      rfl
theorem len_tailOf (c : Bool) (e : El) : 1 ≤ (tailOf c e).length ∧ (tailOf c e).length ≤ 2 := by
  unfold tailOf; split
  · simp
  · split <;> simp
theorem len_app (l : List El) (e : El) : l.length ≤ (app l e).length ∧ (app l e).length ≤ l.length + 2 := by
  by_cases h : Mrgs l e
  · rcases List.eq_nil_or_concat l with rfl | ⟨l', x, rfl⟩
    · cases h.1
    · rw [List.concat_eq_append] at *
      rw [app_mrg h]; simp
  · have := len_tailOf (closed l) e
    rw [app_tail h, List.length_append]
    omega
theorem get_app {l : List El} (e : El) {i : Nat} (hi : i + 1 < l.length) : (app l e)[i]? = l[i]? := by
  by_cases h : Mrgs l e
  · rcases List.eq_nil_or_concat l with rfl | ⟨l', x, rfl⟩
    · cases h.1
    · rw [List.concat_eq_append] at *
      have hi' : i < l'.length := by simp at hi; omega
      rw [app_mrg h, List.getElem?_append_left hi', List.getElem?_append_left hi']
  · rw [app_tail h, List.getElem?_append_left (by omega)]
theorem fits_congr {l r : List El} {x : El} (h : closed l = closed r) : fits l x ↔ fits r x := by unfold fits; rw [h]
theorem wf_snoc {l : List El} {x : El} : Wf (l ++ [x]) ↔ Wf l ∧ fits l x ∧ valid x := by
  unfold Wf
  rw [wo_snoc]
  constructor
  · rintro ⟨⟨h1, h2⟩, h3⟩
    exact ⟨⟨h1, fun y hy => h3 y (by simp [hy])⟩, h2, h3 x (by simp)⟩
  · rintro ⟨⟨h1, h2⟩, h3, h4⟩
    refine ⟨⟨h1, h3⟩, fun y hy => ?_⟩
    rcases List.mem_append.1 hy with h | h
    · exact h2 y h
    · simp at h; rw [h]; exact h4
theorem wf_nil : Wf [] := ⟨wo_nil, fun x h => by simp at h⟩
theorem valid_mrg {x e : El} : valid (mrg x e) ↔ valid x := Iff.rfl
theorem wf_app {l : List El} {e : El} (hl : Wf l) (he : valid e) : Wf (app l e) := by
  by_cases h : Mrgs l e
  · rcases List.eq_nil_or_concat l with rfl | ⟨l', x, rfl⟩
    · cases h.1
    · rw [List.concat_eq_append] at *
      rw [app_mrg h]
      have h3 := wf_snoc.1 hl
      exact wf_snoc.2 ⟨h3.1, h3.2.1, h3.2.2⟩
  · rw [app_tail h]
    unfold tailOf
    split
    · rename_i h0
      refine wf_snoc.2 ⟨hl, ⟨fun hk => (by cases hk), fun _ => h0.1⟩, ?_⟩
      refine Or.inr (Or.inr ⟨rfl, ?_⟩)
      show 1 ≤ e.cs.length
      have : e.cs.length ≠ 0 := fun hz => h ⟨h0.1, h0.2, hz⟩
      omega
    · rename_i h0
      split
      · rename_i h2
        rw [show [(⟨false, [], 0, 0, e.indent⟩ : El), e] = [⟨false, [], 0, 0, e.indent⟩] ++ [e] from rfl, ← List.append_assoc]
        refine wf_snoc.2 ⟨wf_snoc.2 ⟨hl, ⟨fun _ => h2.1, fun hk => (by cases hk)⟩, Or.inl ⟨rfl, by simp⟩⟩, ⟨fun hk => ?_, fun _ => by rw [closed_snoc]; rfl⟩, he⟩
        rw [h2.2] at hk
        cases hk
      · rename_i h2
        refine wf_snoc.2 ⟨hl, ⟨fun hk => ?_, fun hk => ?_⟩, he⟩
        · cases hc : closed l with
          | false => rfl
          | true => exact absurd ⟨hc, hk⟩ h0
        · cases hc : closed l with
          | true => rfl
          | false => exact absurd ⟨hc, hk⟩ h2
/-- The rest of a well formed fodder behind anything well formed whose end is as the part's before it. -/
theorem wf_rest (r : List El) : ∀ (l p : List El), Wf l → Wf (p ++ r) → closed l = closed p → Wf (l ++ r) := by
  induction r with
  | nil => intro l p h _ _; simpa using h
  | cons x r ih =>
    intro l p hl hp hc
    have hp' : Wf ((p ++ [x]) ++ r) := by rw [List.append_assoc]; exact hp
    have hx : fits p x := by
      have := hp.1 p.length x (by simp)
      unfold okAt at this
      rwa [List.take_left' rfl] at this
    have hv : valid x := hp.2 x (by simp)
    have h1 : Wf (l ++ [x]) := wf_snoc.2 ⟨hl, (fits_congr hc).2 hx, hv⟩
    have := ih (l ++ [x]) (p ++ [x]) h1 hp' (by rw [closed_snoc, closed_snoc])
    rwa [List.append_assoc] at this
theorem wf_cat {a b : List El} (ha : Wf a) (hb : Wf b) : Wf (cat a b) := by
  cases a with
  | nil => exact hb
  | cons y s =>
    cases b with
    | nil => exact ha
    | cons x r =>
      rw [cat_cons (by simp)]
      exact wf_rest r _ [x] (wf_app ha (hb.2 x (by simp))) hb (by rw [closed_app]; simp [closed])
theorem len_cat {a b : List El} (ha : a ≠ []) (hb : b ≠ []) : a.length + b.length ≤ (cat a b).length + 1 ∧ (cat a b).length ≤ a.length + b.length + 1 := by
  cases b with
  | nil => exact absurd rfl hb
  | cons x r =>
    have := len_app a x
    rw [cat_cons ha, List.length_append, List.length_cons]
    omega
theorem get_cat_left {a b : List El} {i : Nat} (hi : i + 1 < a.length) : (cat a b)[i]? = a[i]? := by
  cases b with
  | nil => rw [cat_nil]
  | cons x r =>
    have ha : a ≠ [] := by rintro rfl; simp at hi
    have := len_app a x
    rw [cat_cons ha, List.getElem?_append_left (by omega), get_app x hi]
theorem get_cat_right {a b : List El} (ha : a ≠ []) {j : Nat} (hj : 1 ≤ j) (hj2 : j < b.length) : (cat a b)[(cat a b).length - b.length + j]? = b[j]? := by
  cases b with
  | nil => simp at hj2
  | cons x r =>
    have := len_app a x
    have h0 : 1 ≤ a.length := by
      cases a with
      | nil => exact absurd rfl ha
      | cons y s => simp
    rw [cat_cons ha, List.length_append, List.length_cons, List.getElem?_append_right (by omega)]
    obtain ⟨j, rfl⟩ : ∃ j', j = j' + 1 := ⟨j - 1, by omega⟩
    rw [List.getElem?_cons_succ]
    congr 1
    omega

/-! ### the clean end -/
def le0 : El := ⟨false, [], 0, 0, 0⟩
/-- FodderEnsureCleanNewline on lists. -/
def ens (l : List El) : List El := if closed l = true then l else l ++ [le0]
theorem closed_ens (l : List El) : closed (ens l) = true := by
  unfold ens
  split
  · assumption
  · rw [closed_snoc]; rfl
theorem ens_ens (l : List El) : ens (ens l) = ens l := by
  rw [ens, if_pos (closed_ens l)]
theorem app_le0 {l : List El} (h : closed l = false) : app l le0 = l ++ [le0] := app_fits ⟨fun _ => h, fun hk => by cases hk⟩
theorem wf_ens {l : List El} (h : Wf l) : Wf (ens l) := by
  unfold ens
  split
  · exact h
  · rename_i hc
    have hc' : closed l = false := by simpa using hc
    exact wf_snoc.2 ⟨h, ⟨fun _ => hc', fun hk => (by cases hk)⟩, Or.inl ⟨rfl, by simp [le0]⟩⟩
/-- What one element counts. -/
def cnt1 (x : El) : Int := if x.kind = 1 then 0 else if x.kind = 0 then 1 else wrap64 ((x.cs.length : Int) + x.blanks)
def cnt (l : List El) : Int := l.foldl (fun n x => wrap64 (n + cnt1 x)) 0
theorem cnt_snoc (l : List El) (x : El) : cnt (l ++ [x]) = wrap64 (cnt l + cnt1 x) := by simp [cnt]
def known (l : List El) : Prop := ∀ x ∈ l, x.kind = 0 ∨ x.kind = 1 ∨ x.kind = 2
theorem known_ens {l : List El} (h : known l) : known (ens l) := by
  unfold ens
  split
  · exact h
  · intro x hx
    rcases List.mem_append.1 hx with h' | h'
    · exact h x h'
    · simp at h'; rw [h']; exact Or.inl rfl
end Go.Proofs.Ytdmlaofjckopgaa
