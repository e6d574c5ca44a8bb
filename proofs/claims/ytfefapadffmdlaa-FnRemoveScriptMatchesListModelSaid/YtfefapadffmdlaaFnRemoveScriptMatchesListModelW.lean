/- The walk of FnRemoveScriptMatchesListModel. -/
import Derived.Test.YtfefapadffmdlaaFnRemoveScriptMatchesListModelB
import Derived.Test.YtfefapadffmdlaaC73Copy
import Derived.Test.YtfefapadffmdlaaC73CopyOps
import Derived.Test.YtfefapadffmdlaaC73Bytes
import Derived.Test.YtfefapadffmdlaaC73Idx
import Derived.Test.YtfefapadffmdlaaCSetNew
import Derived.Test.YtfefapadffmdlaaCSetAdd
import Derived.Test.YtfefapadffmdlaaCSetRemove
import Derived.Test.YtfefapadffmdlaaCSetContains
import Derived.Test.YtfefapadffmdlaaSortLib
import Derived.Test.YtfefapadffmdlaaModel
import Derived.Deep.RegionWith
import Derived.Deep.RegionHeld3
namespace Go.Proofs.Ytfefapadffmdlaa.fnRemoveScriptMatchesListModel
open Go.ChangeShapes Go.WideShapes Go.ChangeAt Go.RowKit Go.Maps
set_option linter.unusedVariables false

theorem min_any (a b : Int) (w : World) : Calls Try.prog 13 #[.int .i64 a, .int .i64 b] w fun e w' => e = .returned (.int .i64 (if a < b then a else b)) ∧ w = w' := by
  by_cases h : a < b
  all_goals
    go_enter Try.func13, Try.ntmps13
    go_wp2
    go_ret
    simp

/-- What a round keeps: the set and the model list read as one list. -/
structure Both (b base g cp : Nat) (rest : List Value) (acc : List ByteArray) (wr : World) : Prop where
  set : IsSet Try.prog 34 wr b acc
  row : Row wr 9 g cp rest acc
  sz : ∀ s ∈ acc, s.size ≤ maxLen
  bg : base ≤ g
theorem Both.below {b base g cp : Nat} {rest : List Value} {acc : List ByteArray} {w w' : World} (h : Both b base g cp rest acc w) (hb : Below w.heap.size w w') : Both b base g cp rest acc w' := ⟨h.set.below hb, h.row.below hb, h.sz, h.bg⟩
theorem Both.drewN {b base g cp : Nat} {rest : List Value} {acc : List ByteArray} {w : World} (h : Both b base g cp rest acc w) (n : Nat) : Both b base g cp rest acc (w.drewN n) := h.below (below_drewN (Below.refl _ _) n)

set_option maxRecDepth 20000 in
set_option maxHeartbeats 8000000 in
theorem walk (a0 : Option Addr) (len0 cap0 : Nat) (z0 : List Int) (a1 : Option Addr) (len1 cap1 : Nat) (s1 : List ByteArray) (a2 : ByteArray) (w : World) (w0 : IsInts .u8 w a0 len0 cap0 z0) (w1 : IsStrs w a1 len1 cap1 s1) (w2 : a2.size ≤ maxLen) :
    Calls Try.prog 3 #[.slice a0 len0 cap0, .slice a1 len1 cap1, .string a2] w fun e w' => e = .returned (.bool true) ∧ Below w.heap.size w w' := by
  have ha2 := w2
  clear w2
  go_enter Try.func3, Try.ntmps3
  go_wp2_with fail
  refine (bytes_any _ _ _ _ _ _ _ _ _ _ w0 w1 ha2).mono ?_
  rintro e w' ⟨r, rfl, hr, rfl⟩
  cases r
  · go_wp2_with fail
    go_ret
    exact ⟨rfl, Below.refl _ _⟩
  obtain ⟨hl, hl1, hsh, hq⟩ := hr rfl
  clear hr
  go_wp2_with fail
  all_goals try (go_ret; exact ⟨rfl, Below.refl _ _⟩)
  refine (sbytes_any _ _ _ _ _ w1 hsh).mono ?_
  rintro e w' ⟨n, rfl, hn0, hn1, rfl⟩
  go_wp2_with fail
  all_goals try (go_ret; exact ⟨rfl, Below.refl _ _⟩)
  refine (cloneOps_any _ _ _ z0 _ w0 hl).mono ?_
  rintro e w2 ⟨x, c, rfl, hnil, hb2, hop2⟩
  clear hnil
  have hk2 := w1.keep hb2
  clear w0 w1 hsh
  go_wp2_with fail
  refine (clone_any _ _ _ s1 _ hk2 hl1).mono ?_
  intro e w3 hcp
  obtain ⟨y, d, rfl, hnil, hb3, hk3, _⟩ := hcp.u hk2 hl1
  clear hnil
  have hop3 := hop2.keep hb3
  have hB3 := below_trans hb2 hb3
  clear hcp hk2 hop2 hb2 hb3
  obtain ⟨nn, hnn⟩ : ∃ nn : Nat, nn = min len0 len1 := ⟨_, rfl⟩
  have E1 : Hid ((if (len0 : Int) < (len1 : Int) then (len0 : Int) else (len1 : Int)) = (nn : Int)) := by simp only [Hid]; split <;> omega
  have hn1' : nn ≤ len0 := by omega
  have hn2' : nn ≤ len1 := by omega
  have hn3' : nn ≤ 4096 := by omega
  clear hnn
  go_wp2_with fail
  refine (min_any _ _ _).mono ?_
  rintro e w' ⟨he, rfl⟩
  rw [E1.out] at he
  subst he
  clear E1
  go_wp2_with fail
  refine (newSet_any _ _ _ [] _ (strs_nil _) (by decide)).mono ?_
  rintro e w4 ⟨rfl, hS, hb4⟩
  rw [addAll_nil] at hS
  have hmk0 : ∀ W : World, (Instr.makeSlice 23 (.int .i64 0) (.int .i64 0)).run Try.prog W = .ok (.slice (some ⟨W.heap.size, 0, none⟩) 0 0) (W.alloc (.cells (emptyA 0) 9)) := fun W => make_strs0 (P := Try.prog) Try.underlying23 (e := 9) (by kernel_rfl) 0 (by omega) W
  have hBoth : Both w3.heap.size w3.heap.size w4.heap.size 0 [] [] (w4.alloc (.cells (emptyA 0) 9)) := ⟨hS.below (below_alloc (Below.refl _ _) _), ⟨Blk.new _ _ _, rfl, Nat.zero_le _⟩, fun s hs => by simp at hs, hb4.size⟩
  have HBoth := Lib.hid hBoth
  clear hS hBoth
  go_wp2_with fail
  go_loopw [9, 10] (fun v9 v10 wr => ∃ (k g cp : Nat) (rest : List Value) (acc : List ByteArray), k ≤ nn ∧ v10 = .int .i64 k ∧ v9 = .slice (some ⟨g, 0, none⟩) acc.length cp ∧ acc.length ≤ k ∧ Hid (Both w3.heap.size w3.heap.size g cp rest acc wr) ∧ Below w3.heap.size w3 wr) (fun _ v10 _ => nn - (intOf v10).toNat)
  case atStart => exact ⟨0, _, 0, [], [], Nat.zero_le _, rfl, rfl, Nat.le_refl _, HBoth.out, below_alloc hb4 _⟩
  case round =>
    clear HBoth hb4 hmk0
    obtain ⟨k, g, cp, rest, acc, hk, rfl, rfl, hal, hBo, hW⟩ := hrel
    by_cases hlt : k < nn
    · obtain ⟨b, off, s, rfl, hblt, hs, hsz, hcell⟩ := (hk3.keep hW).at_ (show k < len1 by omega)
      obtain ⟨b2, off2, z, rfl, hblt2, hz, hwf, hcellz⟩ := (hop3.keep hW).at_ (show k < len0 by omega)
      have hstr := hBo.out.row.strs hBo.out.sz
      clear hs hz
      have h1 : k < len1 := by omega
      have h2 : k < len0 := by omega
      go_wp2_with fail
      refine (idx_any _ _ _ _ acc _ hstr).mono ?_
      rintro e w' ⟨he, rfl⟩
      have hSet := hBo.out.set
      have hRow := hBo.out.row
      have hbg := hBo.out.bg
      have Hsz : Hid (∀ s ∈ acc, s.size ≤ maxLen) := hBo.out.sz
      have hgb : g ≠ w3.heap.size := hSet.ne_blk hRow.blk
      have hWs := hW.size
      clear hBo hstr
      by_cases hin : s ∈ acc
      · obtain ⟨p, hpl, hpa, hpi⟩ := idxOf_mem hin
        rw [hpi] at he
        subst he
        have hp0 : (0 : Int) ≤ (p : Int) := by omega
        have hpd : decide ((p : Int) < 0) = false := decide_eq_false (by omega)
        have Hin := Lib.hid hin
        have Hpa := Lib.hid hpa
        clear hin hpi hpa
        go_wp2_with fail
        · refine (add_any _ acc s _ hSet hsz (by omega)).mono ?_
          rintro e w5 ⟨he, hS5, hg5⟩
          rw [show decide (s ∉ acc) = false by simp [Hin.out]] at he
          subst he
          rw [addS, if_pos Hin.out] at hS5
          have hR5 := hRow.keep hg5 (by simp; exact hgb)
          have hW5 := below_grown hW hg5 (Nat.le_refl _)
          clear hSet hRow hg5 hW
          go_wp2_with (at_len; refine wpList_len_set rfl _ 30 rfl 34 42 Try.underlying30 _ _ rfl (by assumption) ?_)
          exact ⟨⟨k + 1, g, cp, rest, acc, by omega, by go_num, rfl, by omega, ⟨hS5, hR5, Hsz.out, hbg⟩, hW5⟩, by simp [intOf]; omega⟩
        · refine (remove_any _ acc s _ hSet hsz).mono ?_
          rintro e w5 ⟨rfl, hS5, hg5⟩
          have hR5 := hRow.keep hg5 (by simp; exact hgb)
          have hW5 := below_grown hW hg5 (Nat.le_refl _)
          obtain ⟨L, hL⟩ : ∃ L, acc.length = L + 1 := ⟨acc.length - 1, by omega⟩
          have hLe : (remS acc s).length = L := by have := length_remS hSet.nodup Hin.out; omega
          have hRE := Lib.hid (remS_erase hSet.nodup Hpa.out)
          have hdec : (((remS acc s).length : Int) != (L : Int)) = false := by rw [hLe]; simp
          have HLe := Lib.hid hLe
          have HL := Lib.hid hL
          rw [hL]
          have hLI : (L : Int) + 1 ≤ 4096 := by omega
          have hpL : p ≤ L := by omega
          have hkL : L + 1 ≤ k := by omega
          have hLc : L ≤ cp := by have := hR5.cap; omega
          clear hSet hRow hg5 hW hL hLe hpl hal
          go_wp2_with fail
          go_loopw [14] (fun v14 wr => ∃ t : Nat, p ≤ t ∧ t ≤ L ∧ v14 = .int .i64 t ∧ Row wr 9 g cp rest (Sh acc p t) ∧ IsSet Try.prog 34 wr w3.heap.size (remS acc s) ∧ Below w3.heap.size w3 wr) (fun v14 _ => L - (intOf v14).toNat)
          case atStart => exact ⟨p, Nat.le_refl _, hpL, rfl, by rw [Sh_start]; exact hR5, hS5, hW5⟩
          case round =>
            clear hR5 hS5 hW5
            obtain ⟨t, hpt, htL, rfl, hR6, hS6, hW6⟩ := hrel
            have hShl : (Sh acc p t).length = L + 1 := by rw [Sh_len (by rw [HL.out]; omega) (by rw [HL.out]; omega)]; exact HL.out
            by_cases htl : t < L
            · have hxs := List.getElem?_eq_getElem (show t + 1 < acc.length by rw [HL.out]; omega)
              have hus := List.getElem?_eq_getElem (show t < (Sh acc p t).length by rw [hShl]; omega)
              have hcx := hR6.cell (Sh_get hpt hxs)
              have hcu := hR6.cell hus
              have hfu := hR6.blk.frozen t
              have Hst := Lib.hid (Sh_step hpt hxs)
              have Htl : Hid (t < (Sh acc p t).length) := by rw [hShl]; simp only [Hid]; omega
              have hne : some w3.heap.size ≠ some g := by simp; exact hgb.symm
              obtain ⟨x, hx⟩ : ∃ x, x = acc[t + 1]'(by rw [HL.out]; omega) := ⟨_, rfl⟩
              obtain ⟨u, hu⟩ : ∃ u, u = (Sh acc p t)[t]'(by rw [hShl]; omega) := ⟨_, rfl⟩
              rw [← hx] at hcx Hst
              rw [← hu] at hcu
              clear hxs hus hx hu hShl
              have h1 : (t : Int) + 1 < (L : Int) + 1 := by omega
              have h2 : (t : Int) < (L : Int) + 1 := by omega
              have h3 : t + 1 < L + 1 := by omega
              have h4 : t < L + 1 := by omega
              go_wp2_with fail
              exact ⟨⟨t + 1, by omega, by omega, by go_num, Hst.out ▸ hR6.set Htl.out x, hS6.kept (grown_of_wrote (Wrote.set g t wr (.string x))) hne, below_set hW6 hbg _⟩, by simp [intOf]; omega⟩
            · obtain rfl : t = L := by omega
              obtain ⟨y', hy'⟩ := Sh_end (acc := acc) (p := p) (t := t) (by rw [HL.out]; omega) HL.out.symm
              rw [hy', ← hRE.out] at hR6
              have hR7 := hR6.shrink
              have hsub : Hid (∀ x ∈ remS acc s, x.size ≤ maxLen) := fun x hx => Hsz.out x (mem_remS.1 hx).1
              clear hR6 hy' hShl hpt htL
              go_wp2_with fail
              refine (contains_any _ _ s _ hS6 hsz).mono ?_
              rintro e w8 ⟨he, hb8⟩
              rw [show decide (s ∈ remS acc s) = false by simp [mem_remS]] at he
              subst he
              have hS8 := hS6.below hb8
              have hR8 := hR7.below hb8
              have hW8 := below_trans hW6 hb8
              clear hS6 hR7 hW6 hb8
              go_wp2_with (at_len; refine wpList_len_set rfl _ 30 rfl 34 42 Try.underlying30 _ _ rfl (by assumption) ?_)
              exact ⟨⟨k + 1, g, cp, _, remS acc s, by omega, by go_num, by rw [HLe.out], by rw [HLe.out]; omega, ⟨hS8, hR8, hsub.out, hbg⟩, hW8⟩, by simp [intOf]; omega⟩
      · rw [idxOf_none hin] at he
        subst he
        have Hin := Lib.hid hin
        clear hin
        go_wp2_with fail
        · refine (add_any _ acc s _ hSet hsz (by omega)).mono ?_
          rintro e w5 ⟨he, hS5, hg5⟩
          rw [show decide (s ∉ acc) = true by simp [Hin.out]] at he
          subst he
          rw [addS, if_neg Hin.out] at hS5
          have hR5 := hRow.keep hg5 (by simp; exact hgb)
          have hW5 := below_grown hW hg5 (Nat.le_refl _)
          have hz5 := hW5.size
          clear hSet hRow hg5 hW
          go_wp2_with (first | (at_builtin; refine wpList_append_row rfl _ _ 23 rfl 9 Try.underlying23 (by kernel_rfl) w3.heap.size g cp rest acc s _ _ rfl (hR5.below (below_alloc (Below.refl _ _) _)) rfl (new_cell _ _ _) (by omega) hbg (by simp; omega) ?_; intro g' cp' rest' w6 hR6 hbg6 hg6; have hS6 := (hS5.below (below_alloc (Below.refl _ _) _)).kept hg6 (by simp; exact hgb.symm)) | (at_len; refine wpList_len_set rfl _ 30 rfl 34 42 Try.underlying30 _ _ rfl (by assumption) ?_))
          have hW6 := below_grown (below_alloc hW5 _) hg6 hbg
          exact ⟨⟨k + 1, g', cp', rest', acc ++ [s], by omega, by go_num, by simp, by simp; omega, ⟨hS6, hR6, (fun x hx => by
            rcases List.mem_append.1 hx with h | h
            · exact Hsz.out x h
            · simp at h; rw [h]; exact hsz), hbg6⟩, hW6⟩, by simp [intOf]; omega⟩
        · refine (remove_any _ acc s _ hSet hsz).mono ?_
          rintro e w5 ⟨rfl, hS5, hg5⟩
          rw [remS_none Hin.out] at hS5
          have hR5 := hRow.keep hg5 (by simp; exact hgb)
          have hW5 := below_grown hW hg5 (Nat.le_refl _)
          clear hSet hRow hg5 hW
          go_wp2_with fail
          refine (contains_any _ _ s _ hS5 hsz).mono ?_
          rintro e w6 ⟨he, hb6⟩
          rw [show decide (s ∈ acc) = false by simp [Hin.out]] at he
          subst he
          have hS6 := hS5.below hb6
          have hR6 := hR5.below hb6
          have hW6 := below_trans hW5 hb6
          clear hS5 hR5 hW5 hb6
          go_wp2_with (at_len; refine wpList_len_set rfl _ 30 rfl 34 42 Try.underlying30 _ _ rfl (by assumption) ?_)
          exact ⟨⟨k + 1, g, cp, rest, acc, by omega, by go_num, rfl, by omega, ⟨hS6, hR6, Hsz.out, hbg⟩, hW6⟩, by simp [intOf]; omega⟩
    · obtain ⟨w6, rfl⟩ : ∃ w6, w6 = wr := ⟨_, rfl⟩
      have hk6 := hk3.keep hW
      have hB6 := below_trans hB3 hW
      clear hk3 hop3 hB3 hW
      go_wp2_with fail
      go_loopw [15] (fun v15 wr => ∃ i : Nat, i ≤ nn ∧ v15 = .int .i64 i ∧ Below w6.heap.size w6 wr) (fun v15 _ => nn - (intOf v15).toNat)
      case atStart => exact ⟨0, Nat.zero_le _, rfl, Below.refl _ _⟩
      case round =>
        obtain ⟨i, hi, rfl, hB7⟩ := hrel
        have hBo7 := hBo.out.below hB7
        have hS7 := hBo7.set
        have hstr7 := hBo7.row.strs hBo7.sz
        clear hBo7
        by_cases hli : i < nn
        · obtain ⟨b, off, s, rfl, hblt, hs, hsz, hcell⟩ := (hk6.keep hB7).at_ (show i < len1 by omega)
          have h1 : (i : Int) < (len1 : Int) := by omega
          have h2 : (0 : Int) ≤ (i : Int) := by omega
          have h3 : i < len1 := by omega
          clear hs
          by_cases hin : s ∈ acc
          · obtain ⟨p, hpl, hpa, hpi⟩ := idxOf_mem hin
            have Hc : Hid (decide (s ∈ acc) = true) := by simp [Hid, hin]
            have Hpi := Lib.hid hpi
            have hp0 : (0 : Int) ≤ (p : Int) := by omega
            have hpd : decide ((0 : Int) ≤ (p : Int)) = true := decide_eq_true hp0
            clear hin hpa hpi hpl
            go_wp2_with fail
            go_region_held3 (fun w' => w'.cell? ⟨b, off + i, none⟩ = some (.string s) ∧ IsSet Try.prog 34 w' w3.heap.size acc ∧ IsStrs w' (some ⟨g, 0, none⟩) acc.length cp acc ∧ Below w6.heap.size w6 w') (first | exact ⟨hcell, hS7, hstr7, hB7⟩ | exact ⟨hcell, hS7.drewN 1, hstr7.drewN 1, below_drewN hB7 1⟩ | assumption | (go_split_ands; exact ⟨by assumption, by assumption, by assumption, by assumption⟩) | (go_split_ands; refine ⟨cell_later hb8 (by assumption), IsSet.below (by assumption) hb8, IsStrs.keep (by assumption) hb8, below_trans (by assumption) hb8⟩)) (first | (go_at_call 18; go_split_ands; refine (contains_any _ acc s _ (by first | assumption | exact hS7 | exact hS7.drewN _) hsz).mono ?_; rintro e w8 ⟨he, hb8⟩; rw [Hc.out] at he; subst he; obtain ⟨hc8, hf8⟩ := bcell hb8) | (go_at_call 15; go_split_ands; refine (idx_any _ _ _ _ acc _ (by first | assumption | exact hstr7 | exact hstr7.drewN _)).mono ?_; rintro e w9 ⟨he, hw9⟩; rw [Hpi.out] at he; subst he; subst hw9))
            all_goals (go_split_ands)
            all_goals go_wp2_with fail
            all_goals exact ⟨⟨i + 1, by omega, by go_num, by first | assumption | exact below_trans (by assumption) hb8⟩, by simp [intOf]; omega⟩
          · have Hc : Hid (decide (s ∈ acc) = false) := by simp [Hid, hin]
            have Hpi := Lib.hid (idxOf_none hin)
            clear hin
            go_wp2_with fail
            go_region_held3 (fun w' => w'.cell? ⟨b, off + i, none⟩ = some (.string s) ∧ IsSet Try.prog 34 w' w3.heap.size acc ∧ IsStrs w' (some ⟨g, 0, none⟩) acc.length cp acc ∧ Below w6.heap.size w6 w') (first | exact ⟨hcell, hS7, hstr7, hB7⟩ | exact ⟨hcell, hS7.drewN 1, hstr7.drewN 1, below_drewN hB7 1⟩ | assumption | (go_split_ands; exact ⟨by assumption, by assumption, by assumption, by assumption⟩) | (go_split_ands; refine ⟨cell_later hb8 (by assumption), IsSet.below (by assumption) hb8, IsStrs.keep (by assumption) hb8, below_trans (by assumption) hb8⟩)) (first | (go_at_call 18; go_split_ands; refine (contains_any _ acc s _ (by first | assumption | exact hS7 | exact hS7.drewN _) hsz).mono ?_; rintro e w8 ⟨he, hb8⟩; rw [Hc.out] at he; subst he; obtain ⟨hc8, hf8⟩ := bcell hb8) | (go_at_call 15; go_split_ands; refine (idx_any _ _ _ _ acc _ (by first | assumption | exact hstr7 | exact hstr7.drewN _)).mono ?_; rintro e w9 ⟨he, hw9⟩; rw [Hpi.out] at he; subst he; subst hw9))
            all_goals (go_split_ands)
            all_goals go_wp2_with fail
            all_goals exact ⟨⟨i + 1, by omega, by go_num, by first | assumption | exact below_trans (by assumption) hb8⟩, by simp [intOf]; omega⟩
        · go_wp2_with fail
          refine (contains_any _ acc a2 _ hS7 ha2).mono ?_
          rintro e w8 ⟨he, hb8⟩
          have hstr8 := hstr7.keep hb8
          have hB8 := below_trans hB6 (below_trans hB7 hb8)
          by_cases hin : a2 ∈ acc
          · obtain ⟨p, hpl, hpa, hpi⟩ := idxOf_mem hin
            rw [show decide (a2 ∈ acc) = true by simp [hin]] at he
            subst he
            have Hpi := Lib.hid hpi
            have hp0 : (0 : Int) ≤ (p : Int) := by omega
            have hpd : decide ((0 : Int) ≤ (p : Int)) = true := decide_eq_true hp0
            clear hin hpa hpi hpl hS7 hb8
            go_wp2_with fail
            refine (idx_any _ _ _ _ acc _ hstr8).mono ?_
            rintro e w9 ⟨he, rfl⟩
            rw [Hpi.out] at he
            subst he
            go_wp2_with fail
            go_ret
            exact ⟨rfl, hB8⟩
          · rw [show decide (a2 ∈ acc) = false by simp [hin]] at he
            subst he
            have Hpi := Lib.hid (idxOf_none hin)
            clear hin hS7 hb8
            go_wp2_with fail
            refine (idx_any _ _ _ _ acc _ hstr8).mono ?_
            rintro e w9 ⟨he, rfl⟩
            rw [Hpi.out] at he
            subst he
            go_wp2_with fail
            go_ret
            exact ⟨rfl, hB8⟩
end Go.Proofs.Ytfefapadffmdlaa.fnRemoveScriptMatchesListModel
