/- The key's and the element's types of the set. -/
import Derived.Test.YtekjhcfnaaihmaaSetLib
import Derived.StringKeys
import Derived.Test.YtekjhcfnaaihmaaChecked
namespace Go.Proofs.Ytekjhcfnaaihmaa
open Go.ChangeShapes Go.WideShapes Go.ChangeAt Go.RowKit Go.Maps
set_option linter.unusedVariables false

theorem lawK : Keyed Try.prog 29 := string_keyed Try.underlying29
theorem zeroE (w : World) : (zeroValue 34).run Try.prog w = .ok (.agg #[]) w := by kernel_rfl
theorem keyK {s : ByteArray} (hs : s.size ≤ maxLen) : keyOf Try.prog 29 (.string s) = some (litOf s) := WideMaps.keyOf_string_mk Try.underlying29 hs
end Go.Proofs.Ytekjhcfnaaihmaa
