/-
  The walk of the statement FnFormatComment: it answers true at every string.
-/
import Derived.Test.YtoojofakgjmagaaDoorImpF
namespace Go.Proofs.YtoojofakgjmagaaDoor.Tx
open Go Go.RowKit

theorem format_comment (s : ByteArray) : S (format (s.data.toList, [])) = endedS s := by
  unfold endedS format
  simp
set_option maxHeartbeats 800000 in
set_option maxRecDepth 100000 in
theorem fcom_walk (s : ByteArray) (w : World) : Calls Tryd.prog 6 #[.string s] w fun e w' => e = .returned (.bool true) ∧ Below w.heap.size w w' := by
  by_cases hs : (2147483647 : Int) < (s.size : Int)
  · go_enter Tryd.func6, Tryd.ntmps6
    go_wp2
    go_ret
    exact ⟨rfl, Below.refl _ _⟩
  · have hf : Hid (Fit64 s.data.toList []) := by
      have := ended_length s.data.toList
      rw [size_list] at this
      refine ⟨by rw [size_list]; omega, by simp, by simp, ?_⟩
      simp [format]
      omega
    have hq := Lib.hid (format_comment s)
    go_enter Tryd.func6, Tryd.ntmps6
    go_wp2_with fail
    refine (implFormat_any s none 0 0 [] w (FArgs.nil_ _) hf.out).mono ?_
    rw [hq.out]
    rintro e w1 ⟨rfl, hb1⟩
    go_wp2_with fail
    refine (ended_any s w1 (by omega)).mono ?_
    rintro e w2 ⟨rfl, rfl⟩
    go_wp2_with fail
    refine (writes_any w1).mono ?_
    rintro e w2 ⟨rfl, hb2⟩
    go_wp2
    go_ret
    exact ⟨rfl, hb1.trans (hb2.mono hb1.size)⟩
end Go.Proofs.YtoojofakgjmagaaDoor.Tx
