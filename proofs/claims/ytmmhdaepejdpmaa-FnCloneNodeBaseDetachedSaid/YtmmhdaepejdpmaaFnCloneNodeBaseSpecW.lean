/- The walk of FnCloneNodeBaseSpec. (Written by wip/gen19w.py.) -/
import Derived.Test.YtmmhdaepejdpmaaFnCloneNodeBaseSpecB
import Derived.Test.YtmmhdaepejdpmaaC19Bytes
import Derived.Test.YtmmhdaepejdpmaaC19Copy
import Derived.Test.YtmmhdaepejdpmaaC19Match
import Derived.Test.YtmmhdaepejdpmaaC19Clone
namespace Go.Proofs.Ytmmhdaepejdpmaa.fnCloneNodeBaseSpec
open Go.ChangeShapes Go.WideShapes Go.ChangeAt Go.RowKit
set_option linter.unusedVariables false

theorem strs_of_idrow {w : World} {g' cp n : Nat} {ss : List ByteArray} (h : IdRow w g' cp ss) (hl : ss.length = n) (hsz : ∀ (k : Nat) (s : ByteArray), ss[k]? = some s → s.size ≤ maxLen) : IsStrs w (some ⟨g', 0, none⟩) n cp ss := by
  obtain ⟨rest, h1, h2, h3⟩ := h
  refine ⟨hl, by omega, h3, hsz, (fun h => by cases h), fun _ => ⟨g', 0, rfl, h1.lt, fun k s hs => ?_⟩⟩
  rw [Nat.zero_add, h1.cell k, List.getElem?_toArray, List.getElem?_append_left (by rw [List.length_map]; exact (List.getElem?_eq_some_iff.1 hs).1), List.getElem?_map, hs]
  rfl
theorem zz_none (g T : Nat) (id : ByteArray) (fo : Value) (a : Option Addr) (n c : Nat) (ss : List ByteArray) (v4 v5 v6 v7 v8 v9 : Value) (w : World) (hv : Blk w g T #[.string id, fo, .pointer none, .slice a n c, v4, v5, v6, v7, v8, v9]) (hs : IsStrs w a n c ss) (hl : n ≤ 1048576) :
    Calls Try.prog 8 #[.pointer (some ⟨g, 0, none⟩)] w (ClonePost g T id fo v4 v5 v6 v7 v8 v9 none n ss w) := by
  go_enter Try.func8, Try.ntmps8
  go_wp2_with fail
  refine (clone_none g T id fo a n c ss v4 v5 v6 v7 v8 v9 w hv hs hl).mono ?_
  intro e w' h
  have H := Lib.hid h
  obtain ⟨he, -⟩ := h
  subst he
  go_wp2_with fail
  go_end0
  exact H.out
theorem zz_some (g T : Nat) (id : ByteArray) (fo : Value) (a : Option Addr) (n c : Nat) (ss : List ByteArray) (v4 v5 v6 v7 v8 v9 : Value) (w : World) (ga oa : Nat) (s : ByteArray) (hv : Blk w g T #[.string id, fo, .pointer (some ⟨ga, oa, none⟩), .slice a n c, v4, v5, v6, v7, v8, v9]) (hc : w.cell? ⟨ga, oa, none⟩ = some (.string s)) (hag : ∀ b off, a = some ⟨b, off, none⟩ → b ≠ g) (hs : IsStrs w a n c ss) (hl : n ≤ 1048576) :
    Calls Try.prog 8 #[.pointer (some ⟨g, 0, none⟩)] w (ClonePost g T id fo v4 v5 v6 v7 v8 v9 (some (⟨ga, oa, none⟩, s)) n ss w) := by
  go_enter Try.func8, Try.ntmps8
  go_wp2_with fail
  refine (clone_some g T id fo a n c ss v4 v5 v6 v7 v8 v9 w ga oa s hv hc hag hs hl).mono ?_
  intro e w' h
  have H := Lib.hid h
  obtain ⟨he, -⟩ := h
  subst he
  go_wp2_with fail
  go_end0
  exact H.out

set_option maxRecDepth 20000 in
set_option maxHeartbeats 1600000 in
theorem walk (a0 : ByteArray) (a1 : Bool) (a2 : ByteArray) (a3 : Option Addr) (len3 cap3 : Nat) (s3 : List ByteArray) (a4 : Int) (a5 : Int) (w : World) (w0 : a0.size ≤ maxLen) (w2 : a2.size ≤ maxLen) (w3 : IsStrs w a3 len3 cap3 s3) (w4 : (Lit.int .i64 a4).wf = true) (w5 : (Lit.int .i64 a5).wf = true) :
    Calls Try.prog 3 #[.string a0, .bool a1, .string a2, .slice a3 len3 cap3, .int .i64 a4, .int .i64 a5] w fun e w' => e = .returned (.bool true) ∧ Below w.heap.size w w' := by
  clear w4 w5
  have hm0 := w0
  have hm2 := w2
  unfold maxLen at hm0 hm2
  have hpn := fun W => equalIn_ptr_nil (P := Try.prog) W 9998 Try.underlying27
  have hnq := fun W (x : Addr) (n c : Nat) => Lib.run_eql_slice_nil (P := Try.prog) W 37 31 (some x) n c 0 0 Try.underlying37
  go_enter Try.func3, Try.ntmps3
  go_wp2_with fail
  refine (bytes_any _ _ _ _ _ _ _ _ _ _ w0 w2 w3).mono ?_
  rintro e w' ⟨r, rfl, hr, rfl⟩
  cases r
  · go_wp2_with fail
    go_ret
    exact ⟨rfl, Below.refl _ _⟩
  obtain ⟨hl0, hl2, hl3, -⟩ := hr rfl
  clear hr w0 w2
  cases a1
  · go_wp2_with fail
    all_goals try (go_ret; exact ⟨rfl, Below.refl _ _⟩)
    refine (strBytes_any _ _ _ s3 _ w3).mono ?_
    rintro e w' ⟨m, rfl, hm1, hm2, rfl⟩
    go_wp2_with fail
    all_goals try (go_ret; exact ⟨rfl, Below.refl _ _⟩)
    clear hm1 hm2
    obtain ⟨gl, hgl⟩ : ∃ z, z = w.heap.size := ⟨_, rfl⟩
    obtain ⟨g, hg⟩ : ∃ z, z = w.heap.size + 1 := ⟨_, rfl⟩
    have HX : Hid (Below w.heap.size w ((w.alloc (.cells #[.pointer none, .string ⟨#[102, 46, 106, 115, 111, 110, 110, 101, 116]⟩, .int .i64 a4, .int .i64 a5, .int .i64 a4, .int .i64 a5] 29)).alloc (.cells #[.string a0, .slice none 0 0, .pointer none, .slice none 0 0, .pointer none, .string ⟨#[102, 46, 106, 115, 111, 110, 110, 101, 116]⟩, .int .i64 a4, .int .i64 a5, .int .i64 a4, .int .i64 a5] 41)) ∧ Blk ((w.alloc (.cells #[.pointer none, .string ⟨#[102, 46, 106, 115, 111, 110, 110, 101, 116]⟩, .int .i64 a4, .int .i64 a5, .int .i64 a4, .int .i64 a5] 29)).alloc (.cells #[.string a0, .slice none 0 0, .pointer none, .slice none 0 0, .pointer none, .string ⟨#[102, 46, 106, 115, 111, 110, 110, 101, 116]⟩, .int .i64 a4, .int .i64 a5, .int .i64 a4, .int .i64 a5] 41)) gl 29 #[.pointer none, .string ⟨#[102, 46, 106, 115, 111, 110, 110, 101, 116]⟩, .int .i64 a4, .int .i64 a5, .int .i64 a4, .int .i64 a5] ∧ Blk ((w.alloc (.cells #[.pointer none, .string ⟨#[102, 46, 106, 115, 111, 110, 110, 101, 116]⟩, .int .i64 a4, .int .i64 a5, .int .i64 a4, .int .i64 a5] 29)).alloc (.cells #[.string a0, .slice none 0 0, .pointer none, .slice none 0 0, .pointer none, .string ⟨#[102, 46, 106, 115, 111, 110, 110, 101, 116]⟩, .int .i64 a4, .int .i64 a5, .int .i64 a4, .int .i64 a5] 41)) g 41 #[.string a0, .slice none 0 0, .pointer none, .slice none 0 0, .pointer none, .string ⟨#[102, 46, 106, 115, 111, 110, 110, 101, 116]⟩, .int .i64 a4, .int .i64 a5, .int .i64 a4, .int .i64 a5] ∧ ((w.alloc (.cells #[.pointer none, .string ⟨#[102, 46, 106, 115, 111, 110, 110, 101, 116]⟩, .int .i64 a4, .int .i64 a5, .int .i64 a4, .int .i64 a5] 29)).alloc (.cells #[.string a0, .slice none 0 0, .pointer none, .slice none 0 0, .pointer none, .string ⟨#[102, 46, 106, 115, 111, 110, 110, 101, 116]⟩, .int .i64 a4, .int .i64 a5, .int .i64 a4, .int .i64 a5] 41)).heap.size = w.heap.size + 2) := by
      subst hgl hg
      exact ⟨below_alloc (below_alloc (Below.refl _ _) _) _, (Blk.new w _ _).alloc _, Blk.new1 w _ _ _, by simp⟩
    generalize ((w.alloc (.cells #[.pointer none, .string ⟨#[102, 46, 106, 115, 111, 110, 110, 101, 116]⟩, .int .i64 a4, .int .i64 a5, .int .i64 a4, .int .i64 a5] 29)).alloc (.cells #[.string a0, .slice none 0 0, .pointer none, .slice none 0 0, .pointer none, .string ⟨#[102, 46, 106, 115, 111, 110, 110, 101, 116]⟩, .int .i64 a4, .int .i64 a5, .int .i64 a4, .int .i64 a5] 41)) = W at HX ⊢
    rw [← hg, ← hgl]
    obtain ⟨hB, hlr, hv, hsz⟩ := HX.out
    have hgg : gl < g := by omega
    have hwg : w.heap.size ≤ gl := by omega
    have hgc2 : True := trivial
    clear HX hgl hg hsz
    refine (mkIdents_any _ _ _ s3 _ (w3.keep hB) hl3).mono ?_
    intro e W5 hcp
    obtain ⟨b6, c6, rfl, -, hb5, hk5, hnew⟩ := hcp.u (w3.keep hB) hl3
    have hglt := hv.lt
    replace hlr := hlr.below hb5 hlr.lt
    replace hv := hv.below hb5 hv.lt
    skip
    replace hB := below_trans hB hb5
    have Hag : Hid (∀ b off, b6 = some ⟨b, off, none⟩ → b ≠ g) := fun b off h e => by have := hnew b off h; omega
    have k3 : W5.cell? ⟨g, 3, none⟩ = some (.slice none 0 0) := hv.cell 3
    have f3 := hv.frozen 3
    have hv6 : Blk (W5.setCell ⟨g, 3, none⟩ (.slice b6 len3 c6)) g 41 #[.string a0, .slice none 0 0, .pointer none, .slice b6 len3 c6, .pointer none, .string ⟨#[102, 46, 106, 115, 111, 110, 110, 101, 116]⟩, .int .i64 a4, .int .i64 a5, .int .i64 a4, .int .i64 a5] := by have := hv.set_ 3 (.slice b6 len3 c6); simpa using this
    have hlr6 : Blk (W5.setCell ⟨g, 3, none⟩ (.slice b6 len3 c6)) gl 29 #[.pointer none, .string ⟨#[102, 46, 106, 115, 111, 110, 110, 101, 116]⟩, .int .i64 a4, .int .i64 a5, .int .i64 a4, .int .i64 a5] := hlr.far (p := ⟨g, 3, none⟩) (by simp only; omega) _
    have hB6 : Below w.heap.size w (W5.setCell ⟨g, 3, none⟩ (.slice b6 len3 c6)) := below_set hB (show w.heap.size ≤ g by omega) _
    have hk6 : IsStrs (W5.setCell ⟨g, 3, none⟩ (.slice b6 len3 c6)) b6 len3 c6 s3 := hk5.set (p := ⟨g, 3, none⟩) Hag.out _
    have Hv6 := Lib.hid hv6
    have Hlr6 := Lib.hid hlr6
    skip
    have HB6 := Lib.hid hB6
    have Hk6 := Lib.hid hk6
    clear hcp hb5 hnew hlr hv hB hk5 hv6 hlr6 hB6 hk6 hglt
    go_wp2_with fail
    generalize (W5.setCell ⟨g, 3, none⟩ (.slice b6 len3 c6)) = W6 at Hv6 Hlr6 HB6 Hk6 ⊢
    clear k3 f3
    refine (zz_none g 41 a0 _ _ _ _ s3 _ _ _ _ _ _ _ Hv6.out Hk6.out hl3).mono ?_
    rintro e W7 ⟨he, q7, g7, c7, hv7, hr7, hge7, hgr7, hq7⟩
    subst he hq7
    have hlr7 : Blk W7 gl 29 #[.pointer none, .string ⟨#[102, 46, 106, 115, 111, 110, 110, 101, 116]⟩, .int .i64 a4, .int .i64 a5, .int .i64 a4, .int .i64 a5] := (hgr7.block gl Hlr6.out.lt (by simp; omega)).trans Hlr6.out
    have hgw := Hv6.out.lt
    have hB7 : Below w.heap.size w W7 := HB6.out.trans ⟨hgr7.os, hgr7.tape, hgr7.output, hgr7.size, fun i hi => hgr7.block i (Nat.lt_of_lt_of_le hi HB6.out.size) (by simp; omega)⟩
    have hk7 : IsStrs W7 b6 len3 c6 s3 := ⟨Hk6.out.len, Hk6.out.lecap, Hk6.out.capmax, Hk6.out.sizes, Hk6.out.nil, fun hn => by
      obtain ⟨b, off, e, hlt, hc⟩ := Hk6.out.cells hn
      refine ⟨b, off, e, Nat.lt_of_lt_of_le hlt hgr7.size, fun i s hs => ?_⟩
      rw [World.cell?_of_block (a := ⟨b, off + i, none⟩) (hgr7.block b hlt (by simp; exact Hag.out b off e))]
      exact hc i s hs⟩
    have hf7 : IsStrs W7 (some ⟨g7, 0, none⟩) len3 c7 s3 := strs_of_idrow hr7 w3.len w3.sizes
    have HB7 := Lib.hid hB7
    have Hk7 := Lib.hid hk7
    have Hf7 := Lib.hid hf7
    have H37 := Lib.hid (w3.keep hB7)
    have k0 : W7.cell? ⟨g, 0, none⟩ = some (.string a0) := hv7.cell 0
    have k1 : W7.cell? ⟨g, 1, none⟩ = some (.slice none 0 0) := hv7.cell 1
    have k2 : W7.cell? ⟨g, 2, none⟩ = some (.pointer none) := hv7.cell 2
    have k3 : W7.cell? ⟨g, 3, none⟩ = some (.slice (some ⟨g7, 0, none⟩) len3 c7) := hv7.cell 3
    have k4 : W7.cell? ⟨g, 4, none⟩ = some (.pointer none) := hv7.cell 4
    have k5 : W7.cell? ⟨g, 5, none⟩ = some (.string ⟨#[102, 46, 106, 115, 111, 110, 110, 101, 116]⟩) := hv7.cell 5
    have k6 : W7.cell? ⟨g, 6, none⟩ = some (.int .i64 a4) := hv7.cell 6
    have k7 : W7.cell? ⟨g, 7, none⟩ = some (.int .i64 a5) := hv7.cell 7
    have k8 : W7.cell? ⟨g, 8, none⟩ = some (.int .i64 a4) := hv7.cell 8
    have k9 : W7.cell? ⟨g, 9, none⟩ = some (.int .i64 a5) := hv7.cell 9
    have l0 : W7.cell? ⟨gl, 0, none⟩ = some (.pointer none) := hlr7.cell 0
    have l1 : W7.cell? ⟨gl, 1, none⟩ = some (.string ⟨#[102, 46, 106, 115, 111, 110, 110, 101, 116]⟩) := hlr7.cell 1
    have l2 : W7.cell? ⟨gl, 2, none⟩ = some (.int .i64 a4) := hlr7.cell 2
    have l3 : W7.cell? ⟨gl, 3, none⟩ = some (.int .i64 a5) := hlr7.cell 3
    have l4 : W7.cell? ⟨gl, 4, none⟩ = some (.int .i64 a4) := hlr7.cell 4
    have l5 : W7.cell? ⟨gl, 5, none⟩ = some (.int .i64 a5) := hlr7.cell 5
    clear hv7 hr7 hge7 hgr7 hlr7 hB7 hk7 hf7 Hv6 Hlr6 HB6 Hk6 hgw w3
    have hid : (a0.toList == a0.toList) = true := by simp
    go_wp2_with fail
    go_quiet (fail)
    go_wp2_with fail
    refine (identsMatch_yes _ _ _ _ _ s3 _ (Hf7.out.drewN _) (H37.out.drewN _)).mono ?_
    rintro e W8 ⟨rfl, m8, rfl⟩
    go_wp2_with fail
    refine (identsMatch_yes _ _ _ _ _ s3 _ (by first | exact (Hk7.out.drewN _).drewN _ | exact Hk7.out.drewN _) (by first | exact (H37.out.drewN _).drewN _ | exact H37.out.drewN _)).mono ?_
    rintro e W9 ⟨rfl, m9, rfl⟩
    go_wp2_with fail
    go_ret
    exact ⟨rfl, by first | exact below_drewN (below_drewN (below_drewN HB7.out _) _) _ | exact below_drewN (below_drewN HB7.out _) _ | exact below_drewN HB7.out _⟩
  · go_wp2_with fail
    all_goals try (go_ret; exact ⟨rfl, Below.refl _ _⟩)
    refine (strBytes_any _ _ _ s3 _ w3).mono ?_
    rintro e w' ⟨m, rfl, hm1, hm2, rfl⟩
    go_wp2_with fail
    all_goals try (go_ret; exact ⟨rfl, Below.refl _ _⟩)
    clear hm1 hm2
    obtain ⟨gl, hgl⟩ : ∃ z, z = w.heap.size := ⟨_, rfl⟩
    obtain ⟨g, hg⟩ : ∃ z, z = w.heap.size + 1 := ⟨_, rfl⟩
    obtain ⟨gc, hgc⟩ : ∃ z, z = w.heap.size + 1 + 1 := ⟨_, rfl⟩
    have HX : Hid (Below w.heap.size w (((w.alloc (.cells #[.pointer none, .string ⟨#[102, 46, 106, 115, 111, 110, 110, 101, 116]⟩, .int .i64 a4, .int .i64 a5, .int .i64 a4, .int .i64 a5] 29)).alloc (.cells #[.string a0, .slice none 0 0, .pointer (some ⟨w.heap.size + 1 + 1, 0, none⟩), .slice none 0 0, .pointer none, .string ⟨#[102, 46, 106, 115, 111, 110, 110, 101, 116]⟩, .int .i64 a4, .int .i64 a5, .int .i64 a4, .int .i64 a5] 41)).alloc (.cells #[.string a2] 9)) ∧ Blk (((w.alloc (.cells #[.pointer none, .string ⟨#[102, 46, 106, 115, 111, 110, 110, 101, 116]⟩, .int .i64 a4, .int .i64 a5, .int .i64 a4, .int .i64 a5] 29)).alloc (.cells #[.string a0, .slice none 0 0, .pointer (some ⟨w.heap.size + 1 + 1, 0, none⟩), .slice none 0 0, .pointer none, .string ⟨#[102, 46, 106, 115, 111, 110, 110, 101, 116]⟩, .int .i64 a4, .int .i64 a5, .int .i64 a4, .int .i64 a5] 41)).alloc (.cells #[.string a2] 9)) gl 29 #[.pointer none, .string ⟨#[102, 46, 106, 115, 111, 110, 110, 101, 116]⟩, .int .i64 a4, .int .i64 a5, .int .i64 a4, .int .i64 a5] ∧ Blk (((w.alloc (.cells #[.pointer none, .string ⟨#[102, 46, 106, 115, 111, 110, 110, 101, 116]⟩, .int .i64 a4, .int .i64 a5, .int .i64 a4, .int .i64 a5] 29)).alloc (.cells #[.string a0, .slice none 0 0, .pointer (some ⟨w.heap.size + 1 + 1, 0, none⟩), .slice none 0 0, .pointer none, .string ⟨#[102, 46, 106, 115, 111, 110, 110, 101, 116]⟩, .int .i64 a4, .int .i64 a5, .int .i64 a4, .int .i64 a5] 41)).alloc (.cells #[.string a2] 9)) g 41 #[.string a0, .slice none 0 0, .pointer (some ⟨gc, 0, none⟩), .slice none 0 0, .pointer none, .string ⟨#[102, 46, 106, 115, 111, 110, 110, 101, 116]⟩, .int .i64 a4, .int .i64 a5, .int .i64 a4, .int .i64 a5] ∧ Blk (((w.alloc (.cells #[.pointer none, .string ⟨#[102, 46, 106, 115, 111, 110, 110, 101, 116]⟩, .int .i64 a4, .int .i64 a5, .int .i64 a4, .int .i64 a5] 29)).alloc (.cells #[.string a0, .slice none 0 0, .pointer (some ⟨w.heap.size + 1 + 1, 0, none⟩), .slice none 0 0, .pointer none, .string ⟨#[102, 46, 106, 115, 111, 110, 110, 101, 116]⟩, .int .i64 a4, .int .i64 a5, .int .i64 a4, .int .i64 a5] 41)).alloc (.cells #[.string a2] 9)) gc 9 #[.string a2] ∧ (((w.alloc (.cells #[.pointer none, .string ⟨#[102, 46, 106, 115, 111, 110, 110, 101, 116]⟩, .int .i64 a4, .int .i64 a5, .int .i64 a4, .int .i64 a5] 29)).alloc (.cells #[.string a0, .slice none 0 0, .pointer (some ⟨w.heap.size + 1 + 1, 0, none⟩), .slice none 0 0, .pointer none, .string ⟨#[102, 46, 106, 115, 111, 110, 110, 101, 116]⟩, .int .i64 a4, .int .i64 a5, .int .i64 a4, .int .i64 a5] 41)).alloc (.cells #[.string a2] 9)).heap.size = w.heap.size + 3) := by
      subst hgl hg hgc
      refine ⟨below_alloc (below_alloc (below_alloc (Below.refl _ _) _) _) _, ((Blk.new w _ _).alloc _).alloc _, (Blk.new1 w _ _ _).alloc _, ?_, by simp⟩
      have h := Blk.new ((w.alloc (.cells #[.pointer none, .string ⟨#[102, 46, 106, 115, 111, 110, 110, 101, 116]⟩, .int .i64 a4, .int .i64 a5, .int .i64 a4, .int .i64 a5] 29)).alloc (.cells #[.string a0, .slice none 0 0, .pointer (some ⟨w.heap.size + 1 + 1, 0, none⟩), .slice none 0 0, .pointer none, .string ⟨#[102, 46, 106, 115, 111, 110, 110, 101, 116]⟩, .int .i64 a4, .int .i64 a5, .int .i64 a4, .int .i64 a5] 41)) 9 #[.string a2]
      simpa using h
    generalize (((w.alloc (.cells #[.pointer none, .string ⟨#[102, 46, 106, 115, 111, 110, 110, 101, 116]⟩, .int .i64 a4, .int .i64 a5, .int .i64 a4, .int .i64 a5] 29)).alloc (.cells #[.string a0, .slice none 0 0, .pointer (some ⟨w.heap.size + 1 + 1, 0, none⟩), .slice none 0 0, .pointer none, .string ⟨#[102, 46, 106, 115, 111, 110, 110, 101, 116]⟩, .int .i64 a4, .int .i64 a5, .int .i64 a4, .int .i64 a5] 41)).alloc (.cells #[.string a2] 9)) = W at HX ⊢
    rw [← hgc, ← hg, ← hgl]
    obtain ⟨hB, hlr, hv, hcx, hsz⟩ := HX.out
    have hgg : gl < g := by omega
    have hwg : w.heap.size ≤ gl := by omega
    have hgc2 : g < gc := by omega
    clear HX hgl hg hgc hsz
    refine (mkIdents_any _ _ _ s3 _ (w3.keep hB) hl3).mono ?_
    intro e W5 hcp
    obtain ⟨b6, c6, rfl, -, hb5, hk5, hnew⟩ := hcp.u (w3.keep hB) hl3
    have hglt := hv.lt
    replace hlr := hlr.below hb5 hlr.lt
    replace hv := hv.below hb5 hv.lt
    replace hcx := hcx.below hb5 hcx.lt
    replace hB := below_trans hB hb5
    have Hag : Hid (∀ b off, b6 = some ⟨b, off, none⟩ → b ≠ g) := fun b off h e => by have := hnew b off h; omega
    have k3 : W5.cell? ⟨g, 3, none⟩ = some (.slice none 0 0) := hv.cell 3
    have f3 := hv.frozen 3
    have hv6 : Blk (W5.setCell ⟨g, 3, none⟩ (.slice b6 len3 c6)) g 41 #[.string a0, .slice none 0 0, .pointer (some ⟨gc, 0, none⟩), .slice b6 len3 c6, .pointer none, .string ⟨#[102, 46, 106, 115, 111, 110, 110, 101, 116]⟩, .int .i64 a4, .int .i64 a5, .int .i64 a4, .int .i64 a5] := by have := hv.set_ 3 (.slice b6 len3 c6); simpa using this
    have hlr6 : Blk (W5.setCell ⟨g, 3, none⟩ (.slice b6 len3 c6)) gl 29 #[.pointer none, .string ⟨#[102, 46, 106, 115, 111, 110, 110, 101, 116]⟩, .int .i64 a4, .int .i64 a5, .int .i64 a4, .int .i64 a5] := hlr.far (p := ⟨g, 3, none⟩) (by simp only; omega) _
    have hcx6 : Blk (W5.setCell ⟨g, 3, none⟩ (.slice b6 len3 c6)) gc 9 #[.string a2] := hcx.far (p := ⟨g, 3, none⟩) (by simp only; omega) _
    have hB6 : Below w.heap.size w (W5.setCell ⟨g, 3, none⟩ (.slice b6 len3 c6)) := below_set hB (show w.heap.size ≤ g by omega) _
    have hk6 : IsStrs (W5.setCell ⟨g, 3, none⟩ (.slice b6 len3 c6)) b6 len3 c6 s3 := hk5.set (p := ⟨g, 3, none⟩) Hag.out _
    have Hv6 := Lib.hid hv6
    have Hlr6 := Lib.hid hlr6
    have Hcx6 := Lib.hid hcx6
    have HB6 := Lib.hid hB6
    have Hk6 := Lib.hid hk6
    clear hcp hb5 hnew hlr hv hcx hcx6 hB hk5 hv6 hlr6 hB6 hk6 hglt
    go_wp2_with fail
    generalize (W5.setCell ⟨g, 3, none⟩ (.slice b6 len3 c6)) = W6 at Hv6 Hlr6 Hcx6 HB6 Hk6 ⊢
    clear k3 f3
    refine (zz_some g 41 a0 _ _ _ _ s3 _ _ _ _ _ _ _ gc 0 a2 Hv6.out (Hcx6.out.cell 0) Hag.out Hk6.out hl3).mono ?_
    rintro e W7 ⟨he, q7, g7, c7, hv7, hr7, hge7, hgr7, k, hqk, hlk, hkg, hbk⟩
    subst he hqk
    have hcx7 := (hgr7.block gc Hcx6.out.lt (by simp; omega)).trans Hcx6.out
    have hlr7 : Blk W7 gl 29 #[.pointer none, .string ⟨#[102, 46, 106, 115, 111, 110, 110, 101, 116]⟩, .int .i64 a4, .int .i64 a5, .int .i64 a4, .int .i64 a5] := (hgr7.block gl Hlr6.out.lt (by simp; omega)).trans Hlr6.out
    have hgw := Hv6.out.lt
    have hB7 : Below w.heap.size w W7 := HB6.out.trans ⟨hgr7.os, hgr7.tape, hgr7.output, hgr7.size, fun i hi => hgr7.block i (Nat.lt_of_lt_of_le hi HB6.out.size) (by simp; omega)⟩
    have hk7 : IsStrs W7 b6 len3 c6 s3 := ⟨Hk6.out.len, Hk6.out.lecap, Hk6.out.capmax, Hk6.out.sizes, Hk6.out.nil, fun hn => by
      obtain ⟨b, off, e, hlt, hc⟩ := Hk6.out.cells hn
      refine ⟨b, off, e, Nat.lt_of_lt_of_le hlt hgr7.size, fun i s hs => ?_⟩
      rw [World.cell?_of_block (a := ⟨b, off + i, none⟩) (hgr7.block b hlt (by simp; exact Hag.out b off e))]
      exact hc i s hs⟩
    have hf7 : IsStrs W7 (some ⟨g7, 0, none⟩) len3 c7 s3 := strs_of_idrow hr7 w3.len w3.sizes
    have HB7 := Lib.hid hB7
    have Hk7 := Lib.hid hk7
    have Hf7 := Lib.hid hf7
    have H37 := Lib.hid (w3.keep hB7)
    have k0 : W7.cell? ⟨g, 0, none⟩ = some (.string a0) := hv7.cell 0
    have k1 : W7.cell? ⟨g, 1, none⟩ = some (.slice none 0 0) := hv7.cell 1
    have k2 : W7.cell? ⟨g, 2, none⟩ = some (.pointer (some ⟨k, 0, none⟩)) := hv7.cell 2
    have k3 : W7.cell? ⟨g, 3, none⟩ = some (.slice (some ⟨g7, 0, none⟩) len3 c7) := hv7.cell 3
    have k4 : W7.cell? ⟨g, 4, none⟩ = some (.pointer none) := hv7.cell 4
    have k5 : W7.cell? ⟨g, 5, none⟩ = some (.string ⟨#[102, 46, 106, 115, 111, 110, 110, 101, 116]⟩) := hv7.cell 5
    have k6 : W7.cell? ⟨g, 6, none⟩ = some (.int .i64 a4) := hv7.cell 6
    have k7 : W7.cell? ⟨g, 7, none⟩ = some (.int .i64 a5) := hv7.cell 7
    have k8 : W7.cell? ⟨g, 8, none⟩ = some (.int .i64 a4) := hv7.cell 8
    have k9 : W7.cell? ⟨g, 9, none⟩ = some (.int .i64 a5) := hv7.cell 9
    have l0 : W7.cell? ⟨gl, 0, none⟩ = some (.pointer none) := hlr7.cell 0
    have l1 : W7.cell? ⟨gl, 1, none⟩ = some (.string ⟨#[102, 46, 106, 115, 111, 110, 110, 101, 116]⟩) := hlr7.cell 1
    have l2 : W7.cell? ⟨gl, 2, none⟩ = some (.int .i64 a4) := hlr7.cell 2
    have l3 : W7.cell? ⟨gl, 3, none⟩ = some (.int .i64 a5) := hlr7.cell 3
    have l4 : W7.cell? ⟨gl, 4, none⟩ = some (.int .i64 a4) := hlr7.cell 4
    have l5 : W7.cell? ⟨gl, 5, none⟩ = some (.int .i64 a5) := hlr7.cell 5
    have cc : W7.cell? ⟨gc, 0, none⟩ = some (.string a2) := (show Blk W7 gc 9 #[.string a2] from hcx7).cell 0
    have ck : W7.cell? ⟨k, 0, none⟩ = some (.string a2) := hbk.cell 0
    have hgcl := Hcx6.out.lt
    have hpe : ∀ m, (binOp .eql 35 (.pointer (some ⟨k, 0, none⟩)) (.pointer (some ⟨gc, 0, none⟩))).run Try.prog (W7.drewN m) = .ok (.bool false) (W7.drewN m) := fun m => eql_ptr_other (W7.drewN m) (n := 0) Try.underlying35 (by kernel_rfl) (fun e => by injection e with e; omega) (Blk.drewN hbk m) (Blk.drewN (show Blk W7 gc 9 #[.string a2] from hcx7) m)
    clear hcx7 hbk Hcx6 hgcl
    clear hv7 hr7 hge7 hgr7 hlr7 hB7 hk7 hf7 Hv6 Hlr6 HB6 Hk6 hgw w3
    have hid : (a0.toList == a0.toList) = true := by simp
    go_wp2_with fail
    go_quiet (fail)
    go_wp2_with fail
    refine (identsMatch_yes _ _ _ _ _ s3 _ (Hf7.out.drewN _) (H37.out.drewN _)).mono ?_
    rintro e W8 ⟨rfl, m8, rfl⟩
    go_wp2_with fail
    refine (identsMatch_yes _ _ _ _ _ s3 _ (by first | exact (Hk7.out.drewN _).drewN _ | exact Hk7.out.drewN _) (by first | exact (H37.out.drewN _).drewN _ | exact H37.out.drewN _)).mono ?_
    rintro e W9 ⟨rfl, m9, rfl⟩
    go_wp2_with fail
    go_ret
    exact ⟨rfl, by first | exact below_drewN (below_drewN (below_drewN HB7.out _) _) _ | exact below_drewN (below_drewN HB7.out _) _ | exact below_drewN HB7.out _⟩
end Go.Proofs.Ytmmhdaepejdpmaa.fnCloneNodeBaseSpec
