/-
  The package's File, as the program's table of types has it. No condition.
-/
import Derived.Test.YtmogecodjiofeaaDoorChecked
import Derived.Test.YtmogecodjiofeaaDoorPush
namespace Go.Proofs.YtmogecodjiofeaaDoor.Tx
open Go Go.RowKit

theorem infoTF : (Tryd.prog.info? 47).map (fun i => (i.zero, i.size, i.bytes)) = some (some (.agg #[.string ⟨#[]⟩, .slice none 0 0]), 2, 40) := by kernel_rfl
end Go.Proofs.YtmogecodjiofeaaDoor.Tx
