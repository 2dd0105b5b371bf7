/-
  An archive of strings by its parts, and the sizes that the walk of Format asks. No program in sight.
-/
import Derived.Test.YtmogecodjiofeaaDoorFiles
import Derived.Test.YtmogecodjiofeaaDoorLaws
namespace Go.Proofs.YtmogecodjiofeaaDoor.Tx
open Go Go.RowKit

/-- an archive by its parts: comment c, files fs in a slice -/
def FArgs (w : World) (A : Option Addr) (n cap : Nat) (fs : List (Bs × Bs)) : Prop := Hid (n = fs.length) ∧ n ≤ cap ∧ Row w A (fileCells fs)
theorem FArgs.below {w w' : World} {A : Option Addr} {n cap : Nat} {fs : List (Bs × Bs)} (h : FArgs w A n cap fs) (hb : Below w.heap.size w w') : FArgs w' A n cap fs := ⟨h.1, h.2.1, h.2.2.below hb⟩
theorem FArgs.nil_ (w : World) : FArgs w none 0 0 [] := ⟨rfl, Nat.le_refl _, fun h => absurd rfl h⟩
/-- the sizes that Format's walk asks -/
def Fit64 (c : Bs) (fs : List (Bs × Bs)) : Prop := c.length ≤ 4294967296 ∧ (∀ f ∈ fs, f.1.length ≤ 4294967296 ∧ f.2.length ≤ 4294967296) ∧ fs.length ≤ 4294967296 ∧ (format (c, fs)).length ≤ 1099511627776
end Go.Proofs.YtmogecodjiofeaaDoor.Tx
