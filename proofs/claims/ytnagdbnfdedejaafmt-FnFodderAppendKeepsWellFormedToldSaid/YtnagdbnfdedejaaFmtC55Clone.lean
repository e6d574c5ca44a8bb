/- cloneFEs, fromFodder: a new list of elements that reads as the given one. -/
import Derived.Test.YtnagdbnfdedejaaFmtC55Copy
import Derived.Deep.RegionHeld3
namespace Go.Proofs.YtnagdbnfdedejaaFmt
open Go.ChangeShapes Go.WideShapes Go.ChangeAt Go.RowKit
set_option linter.unusedVariables false

set_option maxHeartbeats 800000 in
theorem cloneFEs_any (a0 : Option Addr) (len0 cap0 : Nat) (s0 : List FEl) (w : World) (w0 : IsFEs w a0 len0 cap0 s0) (hl : len0 ≤ 1048576) (hup : FEsUpto s0 len0) :
    Calls Tryf.prog 12 #[.slice a0 len0 cap0] w (FodPost 9 39 (s0.map FEl.el) w) := by
  have hmk := make_fod (P := Tryf.prog) Tryf.underlying22 (e := 39) (by kernel_rfl) len0 len0 (Nat.le_refl _) (by omega)
  have heq := fun W => Lib.run_eql_slice_nil (P := Tryf.prog) W 22 39 a0 len0 cap0 0 0 Tryf.underlying22
  have Hup := Lib.hid hup
  clear hup
  cases ha : a0 with
  | none =>
    subst ha
    obtain rfl : len0 = 0 := w0.nil rfl
    have hs0 : s0 = [] := List.eq_nil_of_length_eq_zero w0.len
    subst hs0
    go_enter Tryf.func12, Tryf.ntmps12
    go_wp2
    go_ret
    exact ⟨_, rfl, fodd_nil _ _ _ _, Below.refl _ _⟩
  | some x =>
    subst ha
    have Hlen := Lib.hid w0.len
    have Hml : Hid ((s0.map FEl.el).length = len0) := by simp [Hid, w0.len]
    go_enter Tryf.func12, Tryf.ntmps12
    go_wp2
    go_loopw [4] (fun i wr => ∃ k : Nat, k ≤ len0 ∧ i = .int .i64 k ∧ Fodd 9 39 w.heap.size wr (.slice (some ⟨w.heap.size, 0, none⟩) len0 len0) (fillE (s0.map FEl.el) k) ∧ Below w.heap.size w wr) (fun i _ => len0 - (intOf i).toNat)
    case atStart => exact ⟨0, Nat.zero_le _, rfl, by rw [fillE_zero, Hml.out]; exact fodd_made _ _ (by unfold maxLen; omega), below_alloc (Below.refl _ _) _⟩
    case round =>
      obtain ⟨k, hk, rfl, hF, hW⟩ := hrel
      by_cases hlt : k < len0
      · obtain ⟨b, off, y, hx, hblt, hy, hfe, c0, c1, c2, c3⟩ := (w0.keep hW).at_ hlt
        injection hx with hx
        subst hx
        have Hy := Lib.hid hy
        clear hy
        have hst0 := hfe.strs
        have hne : ¬ b = w.heap.size := by
          obtain ⟨b', off', _, hx', hb', _⟩ := w0.at_ hlt
          injection hx' with hx'
          injection hx' with hx1 hx2
          omega
        have hcl := Hup.out k y hlt Hy.out
        have Hw := Lib.hid (And.intro hfe.wk (And.intro hfe.wb hfe.wi))
        have i0 : (0 : Int) ≤ (k : Int) := by omega
        have i1 : (k : Int) < (len0 : Int) := by omega
        have HF := Lib.hid hF
        clear hF hfe
        go_wp2_with fail
        go_region_held3 (fun w' => w'.cell? ⟨b, off + k * 4, none⟩ = some (.slice y.ca y.clen y.ccap) ∧ w'.cell? ⟨b, off + k * 4 + 1, none⟩ = some (.int .i64 y.kind) ∧ w'.cell? ⟨b, off + k * 4 + 2, none⟩ = some (.int .i64 y.blanks) ∧ w'.cell? ⟨b, off + k * 4 + 3, none⟩ = some (.int .i64 y.indent)) (first | (go_split_ands; with_reducible exact ⟨cell_set4 hne _ _ _ _ _ _ _ _ (by assumption), cell_set4 hne _ _ _ _ _ _ _ _ (by assumption), cell_set4 hne _ _ _ _ _ _ _ _ (by assumption), cell_set4 hne _ _ _ _ _ _ _ _ (by assumption)⟩) | go_keep | (go_split_ands; exact ⟨cell_later hb9 (by assumption), cell_later hb9 (by assumption), cell_later hb9 (by assumption), cell_later hb9 (by assumption)⟩)) (first | (go_at_call 28; refine (cloneStrings_any y.ca y.clen y.ccap y.cs _ (hst0.keep (Below.drew (Below.refl _ _))) hcl).mono ?_; intro e w9 hcp; obtain ⟨a', c', rfl, hnil, hb9, hst9, hown9⟩ := hcp.f (hst0.keep (Below.drew (Below.refl _ _))) hcl; have H9 := Lib.hid (And.intro hnil (And.intro hst9 hown9)); clear hnil hst9 hown9 hcp; have HF9 := Lib.hid ((HF.out.keep (Below.drew (Below.refl _ _))).keep hb9); have Hb9 := Lib.hid hb9; obtain ⟨u0, u1, u2, u3, d0, d1, d2, d3, f0, f1, f2, f3⟩ := HF9.out.at4 hlt))
        rename_i hheld
        clear hheld
        obtain ⟨hnil, hst9, hown9⟩ := H9.out
        have hz : IsEl 9 w9 ⟨a', y.clen, c', y.cs, y.kind, y.blanks, y.indent⟩ := ⟨⟨hst9, Hw.out.1, Hw.out.2.1, Hw.out.2.2⟩, hown9⟩
        have Hze : Hid ((⟨a'.isNone, y.cs, y.kind, y.blanks, y.indent⟩ : El) = y.el) := by simp [Hid, FEl.el, hnil]
        have Hz := Lib.hid hz
        have hW1 := below_trans (Below.drew hW) hb9
        clear hnil hst9 hown9 H9 hb9 Hb9 hz d0 d1 d2 d3 f0 f1 f2 f3 c0 c1 c2 c3 hW
        go_wp2
        have hst := fillE_step (ls := s0.map FEl.el) (k := k) (x := y.el) (by rw [List.getElem?_map, Hy.out]; rfl)
        have P1 := HF9.out.putc (by decide) hlt Hz.out Hze.out
        rw [hst] at P1
        refine ⟨⟨k + 1, by omega, by go_num, P1, ?_⟩, by simp [intOf]; omega⟩
        with_reducible exact below_set4 hW1 (Nat.le_refl _) _ _ _ _ _ _ _ _
      · obtain rfl : k = len0 := by omega
        have HF : Hid (Fodd 9 39 w.heap.size wr (.slice (some ⟨w.heap.size, 0, none⟩) k k) (s0.map FEl.el)) := by
          have h := hF
          rw [show fillE (s0.map FEl.el) k = s0.map FEl.el by have := fillE_end (s0.map FEl.el); rw [Hml.out] at this; exact this] at h
          exact h
        clear hF
        go_wp2
        go_ret
        exact ⟨_, rfl, HF.out, hW⟩
end Go.Proofs.YtnagdbnfdedejaaFmt
