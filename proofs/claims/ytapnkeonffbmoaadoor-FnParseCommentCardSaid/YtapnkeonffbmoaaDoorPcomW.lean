/-
  The walk of the statement FnParseComment: it answers true at every string. Condition: the library's four tables as their initialisers lay them.
-/
import Derived.Test.YtapnkeonffbmoaaDoorSame
import Derived.Test.YtapnkeonffbmoaaDoorSpP
namespace Go.Proofs.YtapnkeonffbmoaaDoor.Tx
open Go Go.RowKit

set_option maxHeartbeats 1600000 in
set_option maxRecDepth 100000 in
theorem pcom_walk (s : ByteArray) (w : World) (hT : Tabs w) : Calls Tryd.prog 6 #[.string s] w fun e w' => e = .returned (.bool true) ∧ Below w.heap.size w w' := by
  by_cases hs : (2147483647 : Int) < (s.size : Int)
  · go_enter Tryd.func6, Tryd.ntmps6
    go_wp2
    go_ret
    exact ⟨rfl, Below.refl _ _⟩
  · cases hu : unmarkedB s
    · go_enter Tryd.func6, Tryd.ntmps6
      go_wp2_with fail
      refine (unmarked_any s w (by omega)).mono ?_
      rw [hu]
      rintro e w1 ⟨rfl, hb1⟩
      go_wp2
      go_ret
      exact ⟨rfl, hb1⟩
    · have hp := law_parseComment hu
      obtain ⟨c, hc⟩ : ∃ c, c = endedS s := ⟨_, rfl⟩
      have HC := Lib.hid hc
      have HP := Lib.hid (p := S (parse s.data.toList).1 = c) (by rw [hp, hc]; rfl)
      have HF := Lib.hid (p := (parse s.data.toList).2 = []) (by rw [hp])
      clear hp hc
      go_enter Tryd.func6, Tryd.ntmps6
      go_wp2_with fail
      refine (unmarked_any s w (by omega)).mono ?_
      rw [hu]
      rintro e w1 ⟨rfl, hb1⟩
      go_wp2_with fail
      refine (implParse_any s w1 (by omega) (hT.below hb1)).mono ?_
      rw [HP.out, HF.out]
      rintro e w2 ⟨A, n, cap, rfl, ha, hb2'⟩
      have hb2 := hb1.trans (hb2'.mono hb1.size)
      have hn : n ≤ 17179869184 := by rw [ha.1.out]; simp
      go_wp2_with fail
      refine (ended_any s w2 (by omega)).mono ?_
      rw [← HC.out]
      rintro e w3 ⟨rfl, rfl⟩
      go_wp2_with fail
      refine (same_any c A none n cap 0 0 [] w2 ha (FArgs.nil_ _) hn).mono ?_
      rintro e w3 ⟨rfl, hb3'⟩
      have hb3 := hb2.trans (hb3'.mono hb2.size)
      go_wp2_with fail
      refine (reads_any w3 (hT.below hb3)).mono ?_
      rintro e w4 ⟨rfl, hb4⟩
      go_wp2
      go_ret
      exact ⟨rfl, hb3.trans (hb4.mono hb3.size)⟩
end Go.Proofs.YtapnkeonffbmoaaDoor.Tx
