/- What a sort leaves: each string once, in order, in new memory; slices that are filled. Over any program. -/
import Derived.Test.YtfefapadffmdlaaApp
import Derived.Test.YtfefapadffmdlaaMerge
namespace Go.Proofs.Ytfefapadffmdlaa
open Go.ChangeShapes Go.WideShapes Go.ChangeAt Go.RowKit
set_option linter.unusedVariables false

theorem make_strs0 {P : Program} {t e : TypeId} (ht : P.underlying t = some (.slice e)) (hi : (P.info? e).map (fun i => (i.zero, i.size, i.bytes)) = some (some (.string ByteArray.empty), 1, 16)) (n : Nat) (hn : n ≤ 16777216) (w : World) :
    (Instr.makeSlice t (.int .i64 0) (.int .i64 (n : Int))).run P w = .ok (.slice (some ⟨w.heap.size, 0, none⟩) 0 n) (w.alloc (.cells (emptyA n) e)) := by
  obtain ⟨i, hi0, hz, hs, hb⟩ := info_parts hi
  have hr := run_make (P := P) w t e i _ ht hi0 hz .i64 .i64 0 n (by omega) (by omega) (by rw [hb]; omega) (by omega)
  rw [hs] at hr
  simp only [Int.toNat_natCast, Nat.mul_one] at hr
  rw [hr]
  have : madeCells (Value.string ByteArray.empty).cells n = emptyA n := by
    apply Array.toList_inj.1
    show (madeCells #[Value.string ByteArray.empty] n).toList = _
    rw [toList_madeCells_one]
    simp [emptyA]
  rw [this]
  rfl
theorem blk_at {w : World} {g E k n : Nat} {out : List ByteArray} (h : Blk w g E (strA out)) (hl : out.length = n) (hk : k < n) : ∃ s, out[k]? = some s ∧ w.cell? ⟨g, k, none⟩ = some (.string s) := by
  have hs := List.getElem?_eq_getElem (show k < out.length by omega)
  exact ⟨_, hs, (h.cell k).trans (strA_get hs)⟩

def DedPost (w : World) (n : Nat) (ss : List ByteArray) (e : Ending) (w' : World) : Prop :=
  ∃ (g : Nat) (out : List ByteArray), e = .returned (.slice (some ⟨g, 0, none⟩) out.length n) ∧ Asc out ∧ out.Nodup ∧ (∀ x, x ∈ out ↔ x ∈ ss) ∧ IsStrs w' (some ⟨g, 0, none⟩) out.length n out ∧ Below w.heap.size w w'
theorem fillO_at {out : List ByteArray} {n k : Nat} {s : ByteArray} (h : out[k]? = some s) : (fillO out n)[k]? = some (.string s) := by
  have hk := (List.getElem?_eq_some_iff.1 h).1
  unfold fillO
  rw [List.getElem?_toArray, List.getElem?_append_left (by simpa using hk), List.getElem?_map, h]
  rfl
theorem strs_of_fillO {w : World} {g E n : Nat} {out : List ByteArray} (hb : Blk w g E (fillO out n)) (hn : n ≤ maxLen) (hl : out.length ≤ n) (hsz : ∀ (k : Nat) (s : ByteArray), out[k]? = some s → s.size ≤ maxLen) : IsStrs w (some ⟨g, 0, none⟩) out.length n out :=
  ⟨rfl, hl, hn, hsz, (fun h => by cases h), fun _ => ⟨g, 0, rfl, hb.lt, fun k s hs => by rw [Nat.zero_add, hb.cell k]; exact fillO_at hs⟩⟩

end Go.Proofs.Ytfefapadffmdlaa
