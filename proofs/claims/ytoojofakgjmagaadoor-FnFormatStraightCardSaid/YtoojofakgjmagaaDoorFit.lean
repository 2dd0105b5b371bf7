/-
  What was read of a text is small enough to be written. No program in sight.
-/
import Derived.Test.YtoojofakgjmagaaDoorFA
namespace Go.Proofs.YtoojofakgjmagaaDoor.Tx
open Go Go.RowKit

theorem le_sum : ∀ {l : List Nat} {x : Nat}, x ∈ l → x ≤ l.sum
  | y :: r, x, h => by
    rcases List.mem_cons.1 h with rfl | h
    · simp
    · have := le_sum h
      simp
      omega
/-- what was read of a text is small enough to be written -/
theorem fit_parsed {l : Bs} (h : l.length ≤ 2147483647) : Fit64 (parse l).1 (parse l).2 ∧ (format (parse l)).length ≤ 4294967296 := by
  have h1 := law_parseSize l
  have hf : ∀ f ∈ (parse l).2, f.2.length + f.1.length + 6 ≤ ((parse l).2.map fun f => f.2.length + f.1.length + 6).sum := fun f hf =>
    le_sum (List.mem_map.2 ⟨f, hf, rfl⟩)
  have h2 := format_length_le (parse l)
  have h3 : (((parse l).2.map fun f => f.1.length + f.2.length + 8).sum) * 3 ≤ ((parse l).2.map fun f => f.2.length + f.1.length + 6).sum * 4 := by
    generalize (parse l).2 = fs
    induction fs with
    | nil => simp
    | cons f r ih => simp only [List.map_cons, List.sum_cons]; omega
  have hfc := files_count l
  have h4 : (format (parse l)).length ≤ 4294967296 := by omega
  exact ⟨⟨by omega, fun f hf' => ⟨by have := hf f hf'; omega, by have := hf f hf'; omega⟩, by omega, by show (format (parse l)).length ≤ _; omega⟩, h4⟩
end Go.Proofs.YtoojofakgjmagaaDoor.Tx
