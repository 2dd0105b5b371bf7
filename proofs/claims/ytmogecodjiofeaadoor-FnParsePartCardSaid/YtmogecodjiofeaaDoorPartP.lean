/-
  What the walks of the statement FnParsePart share: a text that is another one's beginning. No program in sight.
-/
import Derived.Test.YtmogecodjiofeaaDoorFld
namespace Go.Proofs.YtmogecodjiofeaaDoor.Tx
open Go Go.RowKit

theorem prefix_extract {a b : ByteArray} (h : a.data.toList <+: b.data.toList) : a.size ≤ b.size ∧ b.extract 0 a.size = a := by
  have h1 := h.length_le
  rw [size_list, size_list] at h1
  refine ⟨h1, ba_eq ?_⟩
  rw [extract_list, List.drop_zero, Nat.sub_zero, ← size_list a]
  exact (List.prefix_iff_eq_take.1 h).symm
theorem flat_take_succ {ls : List Bs} {k : Nat} (hk : k < ls.length) : (ls.take (k + 1)).flatten = (ls.take k).flatten ++ ls[k] := by
  rw [List.take_succ_eq_append_getElem hk, List.flatten_append]
  simp
end Go.Proofs.YtmogecodjiofeaaDoor.Tx
