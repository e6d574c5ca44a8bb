/- The key's and the element's types of the set. -/
import Derived.Test.YtheamgcjnpljfaaSetLib
import Derived.StringKeys
import Derived.Test.YtheamgcjnpljfaaChecked
namespace Go.Proofs.Ytheamgcjnpljfaa
open Go.ChangeShapes Go.WideShapes Go.ChangeAt Go.RowKit Go.Maps
set_option linter.unusedVariables false

theorem lawK : Keyed Try.prog 42 := string_keyed Try.underlying42
theorem zeroE (w : World) : (zeroValue 47).run Try.prog w = .ok (.agg #[]) w := by kernel_rfl
theorem keyK {s : ByteArray} (hs : s.size ≤ maxLen) : keyOf Try.prog 42 (.string s) = some (litOf s) := WideMaps.keyOf_string_mk Try.underlying42 hs
end Go.Proofs.Ytheamgcjnpljfaa
