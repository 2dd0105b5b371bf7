/-
  The package's File, as the program's table of types has it. No condition.
-/
import Derived.Test.YtapnkeonffbmoaaDoorChecked
import Derived.Test.YtapnkeonffbmoaaDoorPush
namespace Go.Proofs.YtapnkeonffbmoaaDoor.Tx
open Go Go.RowKit

theorem infoTF : (Tryd.prog.info? 51).map (fun i => (i.zero, i.size, i.bytes)) = some (some (.agg #[.string ⟨#[]⟩, .slice none 0 0]), 2, 40) := by kernel_rfl
end Go.Proofs.YtapnkeonffbmoaaDoor.Tx
