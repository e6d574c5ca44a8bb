/- The key's and the element's types of the set. -/
import Derived.Test.YtdhojpjimglijaaSetLib
import Derived.StringKeys
import Derived.Test.YtdhojpjimglijaaChecked
namespace Go.Proofs.Ytdhojpjimglijaa
open Go.ChangeShapes Go.WideShapes Go.ChangeAt Go.RowKit Go.Maps
set_option linter.unusedVariables false

theorem lawK : Keyed Try.prog 35 := string_keyed Try.underlying35
theorem zeroE (w : World) : (zeroValue 41).run Try.prog w = .ok (.agg #[]) w := by kernel_rfl
theorem keyK {s : ByteArray} (hs : s.size ≤ maxLen) : keyOf Try.prog 35 (.string s) = some (litOf s) := WideMaps.keyOf_string_mk Try.underlying35 hs
end Go.Proofs.Ytdhojpjimglijaa
