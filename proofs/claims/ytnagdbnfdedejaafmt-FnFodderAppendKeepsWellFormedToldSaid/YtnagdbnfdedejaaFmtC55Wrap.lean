/- The contracts of the law file's helpers, said of rows of the call's own. -/
import Derived.Test.YtnagdbnfdedejaaFmtC55Bytes
import Derived.Test.YtnagdbnfdedejaaFmtC55ToFodder
import Derived.Test.YtnagdbnfdedejaaFmtC55Clone
import Derived.Test.YtnagdbnfdedejaaFmtC55From
import Derived.Test.YtnagdbnfdedejaaFmtC55Same
import Derived.Test.YtnagdbnfdedejaaFmtC55Form
namespace Go.Proofs.YtnagdbnfdedejaaFmt
open Go.ChangeShapes Go.WideShapes Go.ChangeAt Go.RowKit
set_option linter.unusedVariables false

/-- No comment has more than 1<<20 lines. -/
def Sh (ls : List El) : Prop := ∀ x ∈ ls, x.cs.length ≤ 1048576
theorem Sh.append {a b : List El} (ha : Sh a) (hb : Sh b) : Sh (a ++ b) := fun x hx => by
  rcases List.mem_append.1 hx with h | h
  · exact ha x h
  · exact hb x h
theorem Sh.app {l : List El} {e : El} (h : Sh l) (he : e.cs.length ≤ 1048576) : Sh (app l e) := by
  by_cases hm : Mrgs l e
  · rcases List.eq_nil_or_concat l with rfl | ⟨l', x, rfl⟩
    · cases hm.1
    · rw [List.concat_eq_append] at *
      rw [app_mrg hm]
      refine Sh.append (fun y hy => h y (by simp [hy])) (fun y hy => ?_)
      have : y = mrg x e := by simpa using hy
      rw [this]
      exact h x (by simp)
  · rw [app_tail hm]
    refine h.append fun y hy => ?_
    unfold tailOf at hy
    split at hy
    · have : y = (⟨e.nl, e.cs, 2, e.blanks, e.indent⟩ : El) := by simpa using hy
      rw [this]; exact he
    · split at hy
      · have hy' : y = (⟨false, [], 0, 0, e.indent⟩ : El) ∨ y = e := by simpa using hy
        rcases hy' with rfl | rfl
        · simp
        · exact he
      · have : y = e := by simpa using hy
        rw [this]; exact he
theorem Sh.cat {a b : List El} (ha : Sh a) (hb : Sh b) : Sh (cat a b) := by
  cases b with
  | nil => rw [cat_nil]; exact ha
  | cons x r =>
    cases a with
    | nil => exact hb
    | cons y s =>
      rw [cat_cons (by simp)]
      exact (ha.app (hb x (by simp))).append fun z hz => hb z (by simp [hz])
theorem len_cat_le (a b : List El) : (cat a b).length ≤ a.length + b.length + 1 := by
  cases b with
  | nil => rw [cat_nil]; simp
  | cons x r =>
    cases a with
    | nil => rw [nil_cat]; simp
    | cons y s =>
      rw [cat_cons (by simp), List.length_append]
      have := len_app (y :: s) x
      simp only [List.length_cons] at this ⊢
      omega
theorem sh_of_upto {w : World} {a : Option Addr} {n cap : Nat} {fs : List FEl} (h : IsFEs w a n cap fs) (hu : FEsUpto fs n) : Sh (fs.map FEl.el) := fun x hx => by
  obtain ⟨y, hy, rfl⟩ := List.mem_map.1 hx
  obtain ⟨i, hi, he⟩ := List.getElem_of_mem hy
  have hg : fs[i]? = some y := by rw [List.getElem?_eq_getElem hi, he]
  have h1 := hu i y (by have := h.len; omega) hg
  have h2 := (h.elems i y hg).strs.len
  show y.cs.length ≤ 1048576
  omega
theorem upto_of_sh {w : World} {a : Option Addr} {n cap : Nat} {fs : List FEl} (h : IsFEs w a n cap fs) (hs : Sh (fs.map FEl.el)) : FEsUpto fs n := fun k x hk hx => by
  have h1 := hs x.el (List.mem_of_getElem? (el_at hx))
  have h2 := (h.elems k x hx).strs.len
  have h3 : x.el.cs.length = x.cs.length := rfl
  omega

section
variable {T T' base base' : Nat} {w : World} {v v' : Value} {ls : List El}
theorem toFodder_fod (h : Fodd 9 T base w v ls) (hn : ls.length ≤ 1048576) (hs : Sh ls) : Calls Tryf.prog 14 #[v] w (FodPost 9 36 ls w) := by
  obtain ⟨a, cap, fs, rfl, hI, rfl, _, _⟩ := h.form
  exact toFodder_any _ _ _ fs w hI hn (upto_of_sh hI hs)
theorem cloneFEs_fod (h : Fodd 9 T base w v ls) (hn : ls.length ≤ 1048576) (hs : Sh ls) : Calls Tryf.prog 12 #[v] w (FodPost 9 39 ls w) := by
  obtain ⟨a, cap, fs, rfl, hI, rfl, _, _⟩ := h.form
  exact cloneFEs_any _ _ _ fs w hI hn (upto_of_sh hI hs)
theorem fromFodder_fod (h : Fodd 9 T base w v ls) (hn : ls.length ≤ 4194304) (hs : Sh ls) : Calls Tryf.prog 18 #[v] w (FodPost 9 39 ls w) := by
  obtain ⟨a, cap, fs, rfl, hI, rfl, _, _⟩ := h.form
  exact fromFodder_any _ _ _ fs w hI hn (upto_of_sh hI hs)
theorem sameFEs_fod (h : Fodd 9 T base w v ls) (h' : Fodd 9 T' base' w v' ls) : Calls Tryf.prog 17 #[v, v'] w (YesB w) := by
  obtain ⟨a, cap, fs, rfl, hI, hm, _, _⟩ := h.form
  obtain ⟨a', cap', fs', rfl, hI', hm', _, _⟩ := h'.form
  exact sameFEs_yes _ _ _ _ _ fs fs' w hI hI' (hm.trans hm'.symm)
theorem wellFormed_fod (h : Fodd 9 T base w v ls) : Calls Tryf.prog 26 #[v] w (BoolIff (Wf ls) w) := by
  obtain ⟨a, cap, fs, rfl, hI, hm, _, _⟩ := h.form
  have := wellFormed_any _ _ _ fs w hI
  rw [hm] at this
  exact this
end
end Go.Proofs.YtnagdbnfdedejaaFmt
