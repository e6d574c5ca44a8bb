/- sameElem, fodMatches answer true of what reads alike. -/
import Derived.Test.YtdmlaofjckopgaaFodMem
import Derived.Test.YtdmlaofjckopgaaChecked
import Derived.Deep.RegionHeld3
namespace Go.Proofs.Ytdmlaofjckopgaa
open Go.ChangeShapes Go.WideShapes Go.ChangeAt Go.RowKit
set_option linter.unusedVariables false

/-- True comes back; nothing old has turned. -/
def YesB25 (w : World) (e : Ending) (w' : World) : Prop := e = .returned (.bool true) ∧ Below w.heap.size w w'

set_option maxRecDepth 20000 in
set_option maxHeartbeats 800000 in
theorem sameElem_yes (x y : FEl) (w : World) (hx : IsFE w x) (hy : IsFE w y) (hxy : x.el = y.el) :
    Calls Try.prog 32 #[x.agg, y.agg] w (YesB25 w) := by
  obtain ⟨ca, clen, ccap, cs, kd, bl, idt⟩ := x
  obtain ⟨ca', clen', ccap', cs', kd', bl', idt'⟩ := y
  unfold FEl.el at hxy
  injection hxy with h0 h1 h2 h3 h4
  dsimp only at h0 h1 h2 h3 h4
  subst h1 h2 h3 h4
  have hs0 : IsStrs w ca clen ccap cs := hx.strs
  have hs1 : IsStrs w ca' clen' ccap' cs := hy.strs
  obtain rfl : clen = clen' := hs0.len.symm.trans hs1.len
  clear hx hy
  unfold FEl.agg
  dsimp only
  have hm0 : clen ≤ 9223372036854775807 := by have := hs0.lecap; have := hs0.capmax; unfold maxLen at this; omega
  have hq0 := fun W => Lib.run_eql_slice_nil (P := Try.prog) W 51 9 ca clen ccap 0 0 Try.underlying51
  have hq1 := fun W => Lib.run_eql_slice_nil (P := Try.prog) W 51 9 ca' clen ccap' 0 0 Try.underlying51
  have hB : Below w.heap.size w ((w.alloc (.cells #[.slice ca clen ccap, .int .i64 kd, .int .i64 bl, .int .i64 idt] 67)).alloc (.cells #[.slice ca' clen ccap', .int .i64 kd, .int .i64 bl, .int .i64 idt] 64)) := below_alloc (below_alloc (Below.refl _ _) _) _
  have HB := Lib.hid hB
  have Hs0 := Lib.hid (hs0.keep hB)
  have Hs1 := Lib.hid (hs1.keep hB)
  rw [h0] at hq0
  clear hB hs0 hs1 h0
  generalize ca'.isNone = z at hq0 hq1
  go_enter Try.func32, Try.ntmps32
  go_wp2_with fail
  have bx0 : ((w.alloc (.cells #[.slice ca clen ccap, .int .i64 kd, .int .i64 bl, .int .i64 idt] 67)).alloc (.cells #[.slice ca' clen ccap', .int .i64 kd, .int .i64 bl, .int .i64 idt] 64)).cell? ⟨w.heap.size, 0, none⟩ = some (.slice ca clen ccap) := ((Blk.new w 67 #[.slice ca clen ccap, .int .i64 kd, .int .i64 bl, .int .i64 idt]).alloc _).cell 0
  have by0 : ((w.alloc (.cells #[.slice ca clen ccap, .int .i64 kd, .int .i64 bl, .int .i64 idt] 67)).alloc (.cells #[.slice ca' clen ccap', .int .i64 kd, .int .i64 bl, .int .i64 idt] 64)).cell? ⟨w.heap.size + 1, 0, none⟩ = some (.slice ca' clen ccap') := (Blk.new1 w (.cells #[.slice ca clen ccap, .int .i64 kd, .int .i64 bl, .int .i64 idt] 67) 64 #[.slice ca' clen ccap', .int .i64 kd, .int .i64 bl, .int .i64 idt]).cell 0
  generalize ((w.alloc (.cells #[.slice ca clen ccap, .int .i64 kd, .int .i64 bl, .int .i64 idt] 67)).alloc (.cells #[.slice ca' clen ccap', .int .i64 kd, .int .i64 bl, .int .i64 idt] 64)) = W at HB Hs0 Hs1 bx0 by0 ⊢
  clear hq0 hq1
  go_loopw [5] (fun i wr => ∃ k m : Nat, k ≤ clen ∧ i = .int .i64 k ∧ wr = W.drewN m) (fun i _ => clen - (intOf i).toNat)
  case atStart => exact ⟨0, 0, Nat.zero_le _, rfl, rfl⟩
  case round =>
    obtain ⟨k, m, hk, rfl, rfl⟩ := hrel
    by_cases hlt : k < clen
    · obtain ⟨b, off, s, rfl, hblt, hs, hsz, hcell⟩ := Hs0.out.at_ hlt
      obtain ⟨b1, off1, s1, rfl, hblt1, hs1, hsz1, hcell1⟩ := Hs1.out.at_ hlt
      obtain rfl : s = s1 := Option.some.inj (hs.symm.trans hs1)
      clear hs hs1
      have hlt' : (k : Int) < (clen : Int) := by omega
      have hk0 : (0 : Int) ≤ (k : Int) := by omega
      go_wp2_with fail
      go_quiet (fail)
      go_wp2_with fail
      go_roundw
      case rel => exact ⟨k + 1, _, by omega, by go_num, rfl⟩
      case measure => simp [intOf]; omega
    · go_wp2_with fail
      go_ret
      exact ⟨rfl, below_drewN HB.out _⟩

set_option maxRecDepth 20000 in
set_option maxHeartbeats 800000 in
theorem fodMatches_yes (a0 a1 : Option Addr) (n c0 c1 : Nat) (s0 s1 : List FEl) (w : World) (w0 : IsFEs w a0 n c0 s0) (w1 : IsFEs w a1 n c1 s1) (hs : s0.map FEl.el = s1.map FEl.el) (hz : a0.isNone = a1.isNone) :
    Calls Try.prog 18 #[.slice a0 n c0, .slice a1 n c1] w (YesB25 w) := by
  have hm0 : n ≤ 9223372036854775807 := by have := w0.lecap; have := w0.capmax; unfold maxLen at this; omega
  have hq0 := fun W => Lib.run_eql_slice_nil (P := Try.prog) W 24 67 a0 n c0 0 0 Try.underlying24
  have hq1 := fun W => Lib.run_eql_slice_nil (P := Try.prog) W 42 64 a1 n c1 0 0 Try.underlying42
  have Hs := Lib.hid hs
  rw [hz] at hq0
  clear hs hz
  generalize a1.isNone = z at hq0 hq1
  go_enter Try.func18, Try.ntmps18
  go_wp2_with fail
  go_loopw [5] (fun i wr => ∃ k : Nat, k ≤ n ∧ i = .int .i64 k ∧ Below w.heap.size w wr) (fun i _ => n - (intOf i).toNat)
  case atStart => exact ⟨0, Nat.zero_le _, rfl, Below.refl _ _⟩
  case round =>
    clear hq0 hq1
    obtain ⟨k, hk, rfl, hW⟩ := hrel
    by_cases hlt : k < n
    · obtain ⟨b, off, x, rfl, hblt, hx, hfx, x0, x1, x2, x3⟩ := (w0.keep hW).at_ hlt
      obtain ⟨b', off', y, rfl, hblt', hy, hfy, y0, y1, y2, y3⟩ := (w1.keep hW).at_ hlt
      have Hxy : Hid (x.el = y.el) := by
        have h1 : (s0.map FEl.el)[k]? = some x.el := by rw [List.getElem?_map, hx]; rfl
        have h2 : (s1.map FEl.el)[k]? = some y.el := by rw [List.getElem?_map, hy]; rfl
        rw [Hs.out, h2] at h1
        exact (Option.some.inj h1).symm
      clear hx hy
      have i0 : (0 : Int) ≤ (k : Int) := by omega
      have i1 : (k : Int) < (n : Int) := by omega
      go_wp2_with fail
      go_region_held3 (fun w' => w'.cell? ⟨b, off + k * 4, none⟩ = some (.slice x.ca x.clen x.ccap) ∧ w'.cell? ⟨b, off + k * 4 + 1, none⟩ = some (.int .i64 x.kind) ∧ w'.cell? ⟨b, off + k * 4 + 2, none⟩ = some (.int .i64 x.blanks) ∧ w'.cell? ⟨b, off + k * 4 + 3, none⟩ = some (.int .i64 x.indent) ∧ w'.cell? ⟨b', off' + k * 4, none⟩ = some (.slice y.ca y.clen y.ccap) ∧ w'.cell? ⟨b', off' + k * 4 + 1, none⟩ = some (.int .i64 y.kind) ∧ w'.cell? ⟨b', off' + k * 4 + 2, none⟩ = some (.int .i64 y.blanks) ∧ w'.cell? ⟨b', off' + k * 4 + 3, none⟩ = some (.int .i64 y.indent)) (first | exact ⟨x0, x1, x2, x3, y0, y1, y2, y3⟩ | (go_split_ands; exact ⟨cell_later hb2 (by assumption), cell_later hb2 (by assumption), cell_later hb2 (by assumption), cell_later hb2 (by assumption), cell_later hb2 (by assumption), cell_later hb2 (by assumption), cell_later hb2 (by assumption), cell_later hb2 (by assumption)⟩) | assumption) (first | (go_at_call 32; refine (sameElem_yes x y _ (hfx.keep (Below.drew (Below.refl _ _))) (hfy.keep (Below.drew (Below.refl _ _))) Hxy.out).mono ?_; rintro e w2 ⟨rfl, hb2⟩))
      rename_i hheld
      clear hheld
      have hW2 := below_trans (Below.drew hW) hb2
      clear hfx hfy x0 x1 x2 x3 y0 y1 y2 y3 hW hb2
      go_wp2_with fail
      go_roundw
      case rel => exact ⟨k + 1, by omega, by go_num, hW2⟩
      case measure => simp [intOf]; omega
    · go_wp2_with fail
      go_ret
      exact ⟨rfl, hW⟩
end Go.Proofs.Ytdmlaofjckopgaa
