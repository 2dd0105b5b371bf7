/-
  The walk of the statement FnExactParse: it answers true at every string. Condition: the library's four tables as their initialisers lay them.
-/
import Derived.Test.YtapnkeonffbmoaaDoorSpQ
namespace Go.Proofs.YtapnkeonffbmoaaDoor.Tx
open Go Go.RowKit

set_option maxHeartbeats 1600000 in
set_option maxRecDepth 100000 in
theorem pex_walk (s : ByteArray) (w : World) (hT : Tabs w) : Calls Tryd.prog 5 #[.string s] w fun e w' => e = .returned (.bool true) ∧ Below w.heap.size w w' := by
  by_cases hs : (2147483647 : Int) < (s.size : Int)
  · go_enter Tryd.func5, Tryd.ntmps5
    go_wp2
    go_ret
    exact ⟨rfl, Below.refl _ _⟩
  · cases hu : plainB s
    · go_enter Tryd.func5, Tryd.ntmps5
      go_wp2_with fail
      refine (plain_any s w (by omega)).mono ?_
      rw [hu]
      rintro e w1 ⟨rfl, hb1⟩
      go_wp2
      go_ret
      exact ⟨rfl, hb1⟩
    · have hp := law_exactParse hu
      obtain ⟨c, hc⟩ : ∃ c, c = S (parse s.data.toList).1 := ⟨_, rfl⟩
      obtain ⟨fs, hfs⟩ : ∃ fs, fs = (parse s.data.toList).2 := ⟨_, rfl⟩
      have HN := Lib.hid (p := fs.length ≤ 4294967296) (by
        have := files_count s.data.toList
        rw [size_list] at this
        rw [hfs]
        omega)
      have HC2 := Lib.hid (p := S (parseWith mk s.data.toList).1 = c) (by rw [hc, hp])
      have HF2 := Lib.hid (p := (parseWith mk s.data.toList).2 = fs) (by rw [hfs, hp])
      have HC := Lib.hid hc
      have HFS := Lib.hid hfs
      clear hp hc hfs
      go_enter Tryd.func5, Tryd.ntmps5
      go_wp2_with fail
      refine (plain_any s w (by omega)).mono ?_
      rw [hu]
      rintro e w1 ⟨rfl, hb1⟩
      go_wp2_with fail
      refine (implParse_any s w1 (by omega) (hT.below hb1)).mono ?_
      rw [← HC.out, ← HFS.out]
      rintro e w2 ⟨A, n, cap, rfl, ha, hb2'⟩
      have hb2 := hb1.trans (hb2'.mono hb1.size)
      have hn : n ≤ 17179869184 := by rw [ha.1.out]; have := HN.out; omega
      go_wp2_with fail
      refine (specParse_any s w2 (by omega)).mono ?_
      rw [HC2.out, HF2.out]
      rintro e w3 ⟨B, m, cap', rfl, ha', hb3'⟩
      have hb3 := hb2.trans (hb3'.mono hb2.size)
      go_wp2_with fail
      refine (same_any c A B n cap m cap' fs w3 (ha.below hb3') ha' hn).mono ?_
      rintro e w4 ⟨rfl, hb4'⟩
      have hb4 := hb3.trans (hb4'.mono hb3.size)
      go_wp2_with fail
      refine (reads_any w4 (hT.below hb4)).mono ?_
      rintro e w5 ⟨rfl, hb5⟩
      go_wp2
      go_ret
      exact ⟨rfl, hb4.trans (hb5.mono hb4.size)⟩
end Go.Proofs.YtapnkeonffbmoaaDoor.Tx
