/- sameStrings, sameFE, sameFEs answer true of what reads alike; wellOrdered, validElem, wellFormed, kindsKnown. -/
import Derived.Test.YtnagdbnfdedejaaFmtFodMem
import Derived.Test.YtnagdbnfdedejaaFmtChecked
import Derived.Deep.RegionHeld3
namespace Go.Proofs.YtnagdbnfdedejaaFmt
open Go.ChangeShapes Go.WideShapes Go.ChangeAt Go.RowKit
set_option linter.unusedVariables false

/-- True comes back; nothing old has turned. -/
def YesB (w : World) (e : Ending) (w' : World) : Prop := e = .returned (.bool true) ∧ Below w.heap.size w w'

set_option maxHeartbeats 400000 in
theorem sameStrings_yes (a0 a1 : Option Addr) (n c0 c1 : Nat) (ss : List ByteArray) (w : World) (w0 : IsStrs w a0 n c0 ss) (w1 : IsStrs w a1 n c1 ss) :
    Calls Tryf.prog 30 #[.slice a0 n c0, .slice a1 n c1] w (YesQuiet w) := by
  have hm0 : n ≤ 9223372036854775807 := by have := w0.lecap; have := w0.capmax; unfold maxLen at this; omega
  go_enter Tryf.func30, Tryf.ntmps30
  go_wp2
  go_loopw [5] (fun i wr => ∃ k m : Nat, k ≤ n ∧ i = .int .i64 k ∧ wr = w.drewN m) (fun i _ => n - (intOf i).toNat)
  case atStart => exact ⟨0, 0, Nat.zero_le _, rfl, rfl⟩
  case round =>
    obtain ⟨k, m, hk, rfl, rfl⟩ := hrel
    by_cases hlt : k < n
    · obtain ⟨b, off, s, rfl, hblt, hs, hsz, hcell⟩ := w0.at_ hlt
      obtain ⟨b1, off1, s1, rfl, hblt1, hs1, hsz1, hcell1⟩ := w1.at_ hlt
      obtain rfl : s = s1 := Option.some.inj (hs.symm.trans hs1)
      clear hs hs1 w0 w1
      have hlt' : (k : Int) < (n : Int) := by omega
      have hk0 : (0 : Int) ≤ (k : Int) := by omega
      go_wp2_with fail
      go_quiet (fail)
      go_wp2
      go_roundw
      case rel => exact ⟨k + 1, _, by omega, by go_num, rfl⟩
      case measure => simp [intOf]; omega
    · go_wp2
      go_ret
      exact ⟨rfl, m, rfl⟩

/-- Two elements that compare alike: same lines, same three numbers. -/
def Alike (x y : FEl) : Prop := x.cs = y.cs ∧ x.kind = y.kind ∧ x.blanks = y.blanks ∧ x.indent = y.indent
theorem alike_el {x y : FEl} (h : x.el = y.el) : Alike x y := by
  unfold FEl.el at h
  injection h with h1 h2 h3 h4 h5
  exact ⟨h2, h3, h4, h5⟩

set_option maxHeartbeats 800000 in
theorem sameFE_yes (x y : FEl) (w : World) (hx : IsFE w x) (hy : IsFE w y) (hxy : Alike x y) :
    Calls Tryf.prog 29 #[x.agg, y.agg] w (YesB w) := by
  obtain ⟨ca, clen, ccap, cs, kd, bl, idt⟩ := x
  obtain ⟨ca', clen', ccap', cs', kd', bl', idt'⟩ := y
  obtain ⟨h1, h2, h3, h4⟩ := hxy
  simp only at h1 h2 h3 h4
  subst h1 h2 h3 h4
  have hs0 : IsStrs w ca clen ccap cs := hx.strs
  have hs1 : IsStrs w ca' clen' ccap' cs := hy.strs
  obtain rfl : clen = clen' := hs0.len.symm.trans hs1.len
  clear hx hy
  unfold FEl.agg
  go_enter Tryf.func29, Tryf.ntmps29
  go_wp2_with fail
  refine (sameStrings_yes _ _ _ _ _ cs _ (hs0.keep (below_alloc (below_alloc (Below.refl _ _) _) _)) (hs1.keep (below_alloc (below_alloc (Below.refl _ _) _) _))).mono ?_
  rintro e w2 ⟨rfl, m, rfl⟩
  go_wp2
  go_ret
  exact ⟨rfl, below_drewN (below_alloc (below_alloc (Below.refl _ _) _) _) _⟩

set_option maxHeartbeats 800000 in
theorem sameFEs_yes (a0 a1 : Option Addr) (n c0 c1 : Nat) (s0 s1 : List FEl) (w : World) (w0 : IsFEs w a0 n c0 s0) (w1 : IsFEs w a1 n c1 s1) (hs : s0.map FEl.el = s1.map FEl.el) :
    Calls Tryf.prog 17 #[.slice a0 n c0, .slice a1 n c1] w (YesB w) := by
  have hm0 : n ≤ 9223372036854775807 := by have := w0.lecap; have := w0.capmax; unfold maxLen at this; omega
  have Hs := Lib.hid hs
  clear hs
  go_enter Tryf.func17, Tryf.ntmps17
  go_wp2
  go_loopw [5] (fun i wr => ∃ k : Nat, k ≤ n ∧ i = .int .i64 k ∧ Below w.heap.size w wr) (fun i _ => n - (intOf i).toNat)
  case atStart => exact ⟨0, Nat.zero_le _, rfl, Below.refl _ _⟩
  case round =>
    obtain ⟨k, hk, rfl, hW⟩ := hrel
    by_cases hlt : k < n
    · obtain ⟨b, off, x, rfl, hblt, hx, hfx, x0, x1, x2, x3⟩ := (w0.keep hW).at_ hlt
      obtain ⟨b', off', y, rfl, hblt', hy, hfy, y0, y1, y2, y3⟩ := (w1.keep hW).at_ hlt
      have Hxy : Hid (Alike x y) := by
        have h1 : (s0.map FEl.el)[k]? = some x.el := by rw [List.getElem?_map, hx]; rfl
        have h2 : (s1.map FEl.el)[k]? = some y.el := by rw [List.getElem?_map, hy]; rfl
        rw [Hs.out, h2] at h1
        exact alike_el (Option.some.inj h1).symm
      clear hx hy
      have i0 : (0 : Int) ≤ (k : Int) := by omega
      have i1 : (k : Int) < (n : Int) := by omega
      go_wp2_with fail
      go_region_held3 (fun w' => w'.cell? ⟨b, off + k * 4, none⟩ = some (.slice x.ca x.clen x.ccap) ∧ w'.cell? ⟨b, off + k * 4 + 1, none⟩ = some (.int .i64 x.kind) ∧ w'.cell? ⟨b, off + k * 4 + 2, none⟩ = some (.int .i64 x.blanks) ∧ w'.cell? ⟨b, off + k * 4 + 3, none⟩ = some (.int .i64 x.indent) ∧ w'.cell? ⟨b', off' + k * 4, none⟩ = some (.slice y.ca y.clen y.ccap) ∧ w'.cell? ⟨b', off' + k * 4 + 1, none⟩ = some (.int .i64 y.kind) ∧ w'.cell? ⟨b', off' + k * 4 + 2, none⟩ = some (.int .i64 y.blanks) ∧ w'.cell? ⟨b', off' + k * 4 + 3, none⟩ = some (.int .i64 y.indent)) (first | exact ⟨x0, x1, x2, x3, y0, y1, y2, y3⟩ | (go_split_ands; exact ⟨cell_later hb2 (by assumption), cell_later hb2 (by assumption), cell_later hb2 (by assumption), cell_later hb2 (by assumption), cell_later hb2 (by assumption), cell_later hb2 (by assumption), cell_later hb2 (by assumption), cell_later hb2 (by assumption)⟩) | assumption) (first | (go_at_call 29; refine (sameFE_yes x y _ (hfx.keep (Below.drew (Below.refl _ _))) (hfy.keep (Below.drew (Below.refl _ _))) Hxy.out).mono ?_; rintro e w2 ⟨rfl, hb2⟩))
      rename_i hheld
      clear hheld
      have hW2 := below_trans (Below.drew hW) hb2
      clear hfx hfy x0 x1 x2 x3 y0 y1 y2 y3 hW hb2
      go_wp2
      go_roundw
      case rel => exact ⟨k + 1, by omega, by go_num, hW2⟩
      case measure => simp [intOf]; omega
    · go_wp2
      go_ret
      exact ⟨rfl, hW⟩
end Go.Proofs.YtnagdbnfdedejaaFmt
