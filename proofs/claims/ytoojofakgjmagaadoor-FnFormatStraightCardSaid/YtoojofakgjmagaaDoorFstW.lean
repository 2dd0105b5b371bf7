/-
  The walk of the statement FnFormatStraight: it answers true at every string. Condition: the library's four tables as their initialisers lay them.
-/
import Derived.Test.YtoojofakgjmagaaDoorSame
import Derived.Test.YtoojofakgjmagaaDoorFit
import Derived.Test.YtoojofakgjmagaaDoorImpF
import Derived.Test.YtoojofakgjmagaaDoorSpS
namespace Go.Proofs.YtoojofakgjmagaaDoor.Tx
open Go Go.RowKit

set_option maxHeartbeats 3200000 in
set_option maxRecDepth 100000 in
theorem fst_walk (s : ByteArray) (w : World) (hT : Tabs w) : Calls Tryd.prog 4 #[.string s] w fun e w' => e = .returned (.bool true) ∧ Below w.heap.size w w' := by
  by_cases hs : (2147483647 : Int) < (s.size : Int)
  · go_enter Tryd.func4, Tryd.ntmps4
    go_wp2
    go_ret
    exact ⟨rfl, Below.refl _ _⟩
  · have hl : s.data.toList.length ≤ 2147483647 := by rw [size_list]; omega
    obtain ⟨c, hc⟩ : ∃ c, c = S (parse s.data.toList).1 := ⟨_, rfl⟩
    obtain ⟨fs, hfs⟩ : ∃ fs, fs = (parse s.data.toList).2 := ⟨_, rfl⟩
    have hce : (c.data.toList, fs) = parse s.data.toList := by rw [hc, S_data, hfs]
    have hfit : Hid (Fit64 c.data.toList fs) := by
      rw [hc, S_data, hfs]
      exact (fit_parsed hl).1
    have HC := Lib.hid hc
    have HFS := Lib.hid hfs
    have HCE := Lib.hid hce
    clear hc hfs hce
    cases hst : straightB s
    · go_enter Tryd.func4, Tryd.ntmps4
      go_wp2_with fail
      refine (straight_any s w (by omega)).mono ?_
      rw [hst]
      rintro e w1 ⟨rfl, hb1⟩
      go_wp2
      go_ret
      exact ⟨rfl, hb1⟩
    · have HF := Lib.hid (p := S (format (c.data.toList, fs)) = s) (by
        rw [HCE.out, law_formatStraight hst]
        exact S_of s)
      go_enter Tryd.func4, Tryd.ntmps4
      go_wp2_with fail
      refine (straight_any s w (by omega)).mono ?_
      rw [hst]
      rintro e w0 ⟨rfl, hb0⟩
      go_wp2_with fail
      refine (implParse_any s w0 (by omega) (hT.below hb0)).mono ?_
      rw [← HC.out]
      rintro e w1 ⟨A, n, cap, rfl, ha, hb1'⟩
      rw [← HFS.out] at ha
      have hb1 : Below w.heap.size w w1 := hb0.trans (hb1'.mono hb0.size)
      go_wp2_with fail
      refine (implFormat_any c A n cap fs _ ha hfit.out).mono ?_
      rw [HF.out]
      rintro e w3 ⟨rfl, hb3'⟩
      have hbw3 : Below w.heap.size w w3 := hb1.trans (hb3'.mono hb1.size)
      go_wp2_with fail
      refine (reads_any w3 (hT.below hbw3)).mono ?_
      rintro e w6 ⟨rfl, hb6'⟩
      have hbw6 : Below w.heap.size w w6 := hbw3.trans (hb6'.mono hbw3.size)
      go_wp2_with fail
      refine (writes_any w6).mono ?_
      rintro e w7 ⟨rfl, hb7'⟩
      have hbw7 : Below w.heap.size w w7 := hbw6.trans (hb7'.mono hbw6.size)
      go_wp2
      go_ret
      exact ⟨rfl, hbw7⟩
end Go.Proofs.YtoojofakgjmagaaDoor.Tx
