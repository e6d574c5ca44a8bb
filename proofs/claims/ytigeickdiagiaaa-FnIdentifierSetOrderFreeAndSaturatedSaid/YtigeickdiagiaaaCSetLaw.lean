/- The key's and the element's types of IdentifierSet. -/
import Derived.Test.YtigeickdiagiaaaSetLib
import Derived.StringKeys
import Derived.Test.YtigeickdiagiaaaChecked
namespace Go.Proofs.Ytigeickdiagiaaa
open Go.ChangeShapes Go.WideShapes Go.ChangeAt Go.RowKit Go.Maps
set_option linter.unusedVariables false

theorem lawK : Keyed Try.prog 29 := string_keyed Try.underlying29
theorem zeroE (w : World) : (zeroValue 30).run Try.prog w = .ok (.agg #[]) w := by kernel_rfl
end Go.Proofs.Ytigeickdiagiaaa
