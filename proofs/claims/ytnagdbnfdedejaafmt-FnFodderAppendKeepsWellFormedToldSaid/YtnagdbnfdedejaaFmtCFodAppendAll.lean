/- FodderAppend, all cases: the contract. -/
import Derived.Test.YtnagdbnfdedejaaFmtCFodAppendA
import Derived.Test.YtnagdbnfdedejaaFmtCFodAppendB
import Derived.Test.YtnagdbnfdedejaaFmtCFodAppendC
namespace Go.Proofs.YtnagdbnfdedejaaFmt
open Go.ChangeShapes Go.WideShapes Go.ChangeAt Go.RowKit
set_option linter.unusedVariables false

theorem append_any (p i PT : Nat) (ps : Array Value) (v : Value) (ls : List El) (y : FEl) (base : Nat) (w : World) (hp : Blk w p PT ps) (hpi : ps[i]? = some v) (hP1 : PT ≠ 36) (hP2 : PT ≠ 9)
    (hF : Fodd 9 36 base w v ls) (hy : IsEl 9 w y) (hl : ls.length ≤ 4194302) (hbase : base ≤ w.heap.size) :
    Calls Tryf.prog 15 #[.pointer (some ⟨p, i, none⟩), y.agg] w (AppPost 9 36 p i PT ps v base (app ls y.el) w) := by
  obtain ⟨ca, cl, cc, cs, kd, bl, idt⟩ := y
  show Calls Tryf.prog 15 #[.pointer (some ⟨p, i, none⟩), .agg #[.slice ca cl cc, .int .i64 kd, .int .i64 bl, .int .i64 idt]] w (AppPost 9 36 p i PT ps v base (app ls ⟨ca.isNone, cs, kd, bl, idt⟩) w)
  cases hc : closed ls with
  | true =>
    by_cases hk : kd = 0
    · subst hk
      rcases Nat.eq_zero_or_pos cl with hz | hz
      · subst hz
        exact append_b p i PT ps v ls ca cc cs bl idt base w hp hpi hP1 hP2 hF hy hl hbase hc
      · exact append_a p i PT ps v ls ca cl cc cs bl idt base w hp hpi hP1 hP2 hF hy hl hbase hc hz
    · exact append_c1 p i PT ps v ls ca cl cc cs kd bl idt base w hp hpi hP1 hP2 hF hy hl hbase hc hk
  | false =>
    by_cases hk : kd = 2
    · subst hk
      exact append_d p i PT ps v ls ca cl cc cs bl idt base w hp hpi hP1 hP2 hF hy hl hbase hc
    · exact append_c2 p i PT ps v ls ca cl cc cs kd bl idt base w hp hpi hP1 hP2 hF hy hl hbase hc hk
end Go.Proofs.YtnagdbnfdedejaaFmt
