/- The key's and the element's types of the set. -/
import Derived.Test.YtenmcojmcnbdbaaSetLib
import Derived.StringKeys
import Derived.Test.YtenmcojmcnbdbaaChecked
namespace Go.Proofs.Ytenmcojmcnbdbaa
open Go.ChangeShapes Go.WideShapes Go.ChangeAt Go.RowKit Go.Maps
set_option linter.unusedVariables false

theorem lawK : Keyed Try.prog 32 := string_keyed Try.underlying32
theorem zeroE (w : World) : (zeroValue 33).run Try.prog w = .ok (.agg #[]) w := by kernel_rfl
theorem keyK {s : ByteArray} (hs : s.size ≤ maxLen) : keyOf Try.prog 32 (.string s) = some (litOf s) := WideMaps.keyOf_string_mk Try.underlying32 hs
end Go.Proofs.Ytenmcojmcnbdbaa
