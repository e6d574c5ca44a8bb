/- The key's and the element's types of the set. -/
import Derived.Test.YtfefapadffmdlaaSetLib
import Derived.StringKeys
import Derived.Test.YtfefapadffmdlaaChecked
namespace Go.Proofs.Ytfefapadffmdlaa
open Go.ChangeShapes Go.WideShapes Go.ChangeAt Go.RowKit Go.Maps
set_option linter.unusedVariables false

theorem lawK : Keyed Try.prog 34 := string_keyed Try.underlying34
theorem zeroE (w : World) : (zeroValue 42).run Try.prog w = .ok (.agg #[]) w := by kernel_rfl
theorem keyK {s : ByteArray} (hs : s.size ≤ maxLen) : keyOf Try.prog 34 (.string s) = some (litOf s) := WideMaps.keyOf_string_mk Try.underlying34 hs
end Go.Proofs.Ytfefapadffmdlaa
