/-
  One operation more: the files of an archive that is at hand as a value; lists read line by line. No condition.
-/
import Derived.Test.YtmogecodjiofeaaDoorSame
import Derived.Test.YtmogecodjiofeaaDoorSpP
namespace Go.Proofs.YtmogecodjiofeaaDoor.Tx
open Go Go.RowKit

theorem field_files (c : ByteArray) (A : Option Addr) (n cap : Nat) (w : World) : (Instr.field 29 (.agg #[.string c, .slice A n cap]) 1).run Tryd.prog w = .ok (.slice A n cap) w := by
  simp [Instr.field, run_underlying Tryd.underlying29, Result.andThen, part, asAgg, go_sem]
theorem filter_take_succ {α : Type} {p : α → Bool} {ls : List α} {k : Nat} (hk : k < ls.length) : (ls.take (k + 1)).filter p = (ls.take k).filter p ++ (if p ls[k] then [ls[k]] else []) := by
  rw [List.take_succ_eq_append_getElem hk, List.filter_append]
  congr 1
  simp only [List.filter_cons, List.filter_nil]
theorem filter_take_all {α : Type} {p : α → Bool} {ls : List α} {k : Nat} (hk : ¬ k < ls.length) : (ls.take k).filter p = ls.filter p := by
  rw [List.take_of_length_le (by omega)]
theorem filter_take_le {α : Type} (p : α → Bool) (ls : List α) (k : Nat) : ((ls.take k).filter p).length ≤ k :=
  Nat.le_trans (List.length_filter_le _ _) (List.length_take_le _ _)
theorem filter_flat_le (p : Bs → Bool) : ∀ (ls : List Bs), (ls.filter p).flatten.length ≤ ls.flatten.length
  | [] => by simp
  | x :: r => by
    have := filter_flat_le p r
    rw [List.filter_cons]
    split <;> simp only [List.flatten_cons, List.length_append] <;> omega
theorem take_flat_le : ∀ (ls : List Bs) (k : Nat), (ls.take k).flatten.length ≤ ls.flatten.length
  | [], k => by simp
  | x :: r, 0 => by simp
  | x :: r, k + 1 => by
    have := take_flat_le r k
    simp only [List.take_succ_cons, List.flatten_cons, List.length_append]
    omega
theorem lines_flat_le {s : ByteArray} {ls : List Bs} (h : ls = lines s.data.toList) : ls.flatten.length ≤ s.size + 1 := by
  rw [h, lines_flatten, ← size_list]
  exact ended_length _
/-- the texts of the files, one behind the other -/
theorem texts_take_succ {fs : List (Bs × Bs)} {k : Nat} (hk : k < fs.length) : ((fs.take (k + 1)).map (·.2)).flatten = ((fs.take k).map (·.2)).flatten ++ fs[k].2 := by
  rw [List.take_succ_eq_append_getElem hk, List.map_append, List.flatten_append]
  congr 1
  simp
theorem texts_take_le : ∀ (fs : List (Bs × Bs)) (k : Nat), ((fs.take k).map (·.2)).flatten.length ≤ (fs.map (·.2)).flatten.length
  | [], k => by simp
  | x :: r, 0 => by simp
  | x :: r, k + 1 => by
    have := texts_take_le r k
    simp only [List.take_succ_cons, List.map_cons, List.flatten_cons, List.length_append]
    omega
/-- a string after a string -/
theorem append_list (a b : ByteArray) : (a ++ b).data.toList = a.data.toList ++ b.data.toList := by simp
end Go.Proofs.YtmogecodjiofeaaDoor.Tx
