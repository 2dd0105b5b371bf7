/-
  What the bound of an '..Upto' statement gives the walks: the archive is small. No program in sight but for the rows.
-/
import Derived.Test.YtoojofakgjmagaaDoorArch
import Derived.Test.YtoojofakgjmagaaDoorSize
import Derived.Test.YtoojofakgjmagaaDoorSpF
namespace Go.Proofs.YtoojofakgjmagaaDoor.Tx
open Go Go.RowKit

structure SmallArch (c : ByteArray) (n : Nat) (fs : List (Bs × Bs)) : Prop where
  fit : Fit64 c.data.toList fs
  com : c.size ≤ 1048576
  num : n ≤ 1048576
  each : ∀ f ∈ fs, f.1.length ≤ 2147483647 ∧ f.2.length ≤ 2147483647
  wide : ∀ f ∈ fs, f.1.length ≤ 4294967296 ∧ f.2.length ≤ 4294967296
theorem small_of {c : ByteArray} {n : Nat} {fs : List (Bs × Bs)} (hn : n = fs.length) (h : c.data.toList.length + sumOf fs ≤ 1048576) : SmallArch c n fs := by
  have h1 := sumOf_len fs
  have h2 := size_list c
  exact ⟨fit_small (by omega), by omega, by omega, fun f hf => by have := sumOf_mem hf; omega, fun f hf => by have := sumOf_mem hf; omega⟩
end Go.Proofs.YtoojofakgjmagaaDoor.Tx
