/- toElem: the element with a copy of its comment. -/
import Derived.Test.YtnagdbnfdedejaaFmtC55Copy
import Derived.Deep.RegionHeld3
namespace Go.Proofs.YtnagdbnfdedejaaFmt
open Go.ChangeShapes Go.WideShapes Go.ChangeAt Go.RowKit
set_option linter.unusedVariables false

/-- An element comes back that reads as x, its comment in memory that is known whole. -/
def ElPost (S : TypeId) (x : El) (w : World) (e : Ending) (w' : World) : Prop := ∃ y : FEl, e = .returned y.agg ∧ IsEl S w' y ∧ y.el = x ∧ Below w.heap.size w w'

set_option maxHeartbeats 400000 in
theorem toElem_any (x : FEl) (w : World) (w0 : IsFE w x) (hl : x.clen ≤ 1048576) :
    Calls Tryf.prog 16 #[x.agg] w (ElPost 9 x.el w) := by
  obtain ⟨ca, clen, ccap, cs, kd, bl, idt⟩ := x
  have hst : IsStrs w ca clen ccap cs := w0.strs
  have hwk := Lib.hid w0.wk
  have hwb := Lib.hid w0.wb
  have hwi := Lib.hid w0.wi
  clear w0
  unfold FEl.agg
  simp only at hl
  go_enter Tryf.func16, Tryf.ntmps16
  go_wp2_with fail
  go_region_held3 (fun w' => w'.cell? ⟨w.heap.size, 0, none⟩ = some (.slice ca clen ccap) ∧ w'.cell? ⟨w.heap.size, 1, none⟩ = some (.int .i64 kd) ∧ w'.cell? ⟨w.heap.size, 2, none⟩ = some (.int .i64 bl) ∧ w'.cell? ⟨w.heap.size, 3, none⟩ = some (.int .i64 idt)) (first | go_keep | (go_split_ands; exact ⟨cell_later hb9 (by assumption), cell_later hb9 (by assumption), cell_later hb9 (by assumption), cell_later hb9 (by assumption)⟩)) (first | (go_at_call 28; refine (cloneStrings_any ca clen ccap cs _ (hst.keep (Below.drew (below_alloc (below_alloc (Below.refl _ _) _) _))) hl).mono ?_; intro e w9 hcp; obtain ⟨a', c', rfl, hnil, hb9, hst9, hown9⟩ := hcp.f (hst.keep (Below.drew (below_alloc (below_alloc (Below.refl _ _) _) _))) hl; have H9 := Lib.hid (And.intro hnil (And.intro hst9 hown9)); clear hnil hst9 hown9 hcp; have Hb9 := Lib.hid hb9; obtain ⟨hc9, hf9⟩ := bcell hb9))
  rename_i hheld
  clear hheld
  go_wp2_with fail
  have hR9 := ((Blk.new1 w (.cells #[Value.slice ca clen ccap, Value.int IntKind.i64 kd, Value.int IntKind.i64 bl, Value.int IntKind.i64 idt] 39) 36 #[Value.slice none 0 0, Value.int IntKind.i64 0, Value.int IntKind.i64 0, Value.int IntKind.i64 0]).drew).below hb9 (by simp)
  have hB9 : Below w.heap.size w w9 := below_trans (Below.drew (below_alloc (below_alloc (Below.refl _ _) _) _)) hb9
  obtain ⟨hnil, hst9, hown9⟩ := H9.out
  refine bodyPost_ret (v := .agg #[.slice a' clen c', .int .i64 kd, .int .i64 bl, .int .i64 idt]) (by simp [results, Tryf.results16, go_sem, hc9]) rfl ?_
  refine ⟨⟨a', clen, c', cs, kd, bl, idt⟩, rfl, IsEl.set4 ⟨⟨hst9, hwk.out, hwb.out, hwi.out⟩, hown9⟩ hR9 (by decide) _ _ _ _ _ _ _, by simp [FEl.el, hnil], below_set4 hB9 (by omega) _ _ _ _ _ _ _ _⟩
end Go.Proofs.YtnagdbnfdedejaaFmt
