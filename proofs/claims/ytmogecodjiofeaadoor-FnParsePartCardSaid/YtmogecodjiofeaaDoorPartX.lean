/-
  The statement FnParsePart: it answers true at every string and every number. Condition: the library's four tables as their initialisers lay them.
-/
import Derived.Test.YtmogecodjiofeaaDoorPartV
import Derived.Test.YtmogecodjiofeaaDoorPartW
namespace Go.Proofs.YtmogecodjiofeaaDoor.Tx
open Go Go.RowKit

set_option maxHeartbeats 1600000 in
set_option maxRecDepth 100000 in
theorem part_walk (s : ByteArray) (n : Int) (w : World) (hT : Tabs w) : Calls Tryd.prog 7 #[.string s, .int .i64 n] w fun e w' => e = .returned (.bool true) ∧ Below w.heap.size w w' := by
  by_cases hs : (2147483647 : Int) < (s.size : Int)
  · go_enter Tryd.func7, Tryd.ntmps7
    go_wp2
    go_ret
    exact ⟨rfl, Below.refl _ _⟩
  · by_cases h0 : s.size = 0
    · have hse : s.toList.isEmpty = true := by
        rw [Lib.toList_data, List.isEmpty_iff]
        exact List.eq_nil_of_length_eq_zero (by rw [size_list]; exact h0)
      exact part_zero s n w hT hs hse (by omega)
    · have hse : s.toList.isEmpty = false := by
        rw [Lib.toList_data]
        cases hx : s.data.toList with
        | nil => exact absurd (by rw [← size_list, hx]; rfl) h0
        | cons a r => rfl
      have hpos : 0 < s.size := by omega
      cases h13 : ((s[s.size - 1].toNat : Int) == 13)
      · exact part_main s n w hT hs hse hpos h13
      · clear h0
        go_enter Tryd.func7, Tryd.ntmps7
        go_wp2
        go_ret
        exact ⟨rfl, Below.refl _ _⟩
end Go.Proofs.YtmogecodjiofeaaDoor.Tx
