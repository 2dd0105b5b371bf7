/-
  The walk of the statement FnFormatTwice: it answers true at every string. Condition: the library's four tables as their initialisers lay them.
-/
import Derived.Test.YtoojofakgjmagaaDoorFpaW
namespace Go.Proofs.YtoojofakgjmagaaDoor.Tx
open Go Go.RowKit

set_option maxHeartbeats 3200000 in
set_option maxRecDepth 100000 in
theorem ftw_walk (s : ByteArray) (w : World) (hT : Tabs w) : Calls Tryd.prog 8 #[.string s] w fun e w' => e = .returned (.bool true) ∧ Below w.heap.size w w' := by
  by_cases hs : (2147483647 : Int) < (s.size : Int)
  · go_enter Tryd.func8, Tryd.ntmps8
    go_wp2
    go_ret
    exact ⟨rfl, Below.refl _ _⟩
  · have hl : s.data.toList.length ≤ 2147483647 := by rw [size_list]; omega
    obtain ⟨c, hc⟩ : ∃ c, c = S (parse s.data.toList).1 := ⟨_, rfl⟩
    obtain ⟨fs, hfs⟩ : ∃ fs, fs = (parse s.data.toList).2 := ⟨_, rfl⟩
    have hce : (c.data.toList, fs) = parse s.data.toList := by rw [hc, S_data, hfs]
    obtain ⟨t, ht⟩ : ∃ t, t = S (format (c.data.toList, fs)) := ⟨_, rfl⟩
    have hfit : Hid (Fit64 c.data.toList fs) := by
      rw [hc, S_data, hfs]
      exact (fit_parsed hl).1
    have hts : t.size ≤ 4294967296 := by
      rw [ht, S_size, hce]
      exact (fit_parsed hl).2
    have hpt : parse t.data.toList = (c.data.toList, fs) := by
      rw [ht, S_data, hce]
      exact law_formatParse _
    have hn : fs.length ≤ 4294967296 := by
      rw [hfs]
      have := files_count s.data.toList
      omega
    have hcc : S c.data.toList = c := S_of c
    have HC := Lib.hid hc
    have HFS := Lib.hid hfs
    have HTT := Lib.hid ht
    have HPT := Lib.hid hpt
    have HCC := Lib.hid hcc
    clear hc hfs ht hpt hcc hce
    by_cases h0 : s.size = 0
    · have hse : s.toList.isEmpty = true := by
        rw [Lib.toList_data, List.isEmpty_iff]
        exact List.eq_nil_of_length_eq_zero (by rw [size_list]; exact h0)
      go_enter Tryd.func8, Tryd.ntmps8
      go_wp2_with fail
      refine (implParse_any s w (by omega) hT).mono ?_
      rw [← HC.out]
      rintro e w1 ⟨A, n, cap, rfl, ha, hb1⟩
      rw [← HFS.out] at ha
      go_wp2_with fail
      refine (implFormat_any c A n cap fs _ ha hfit.out).mono ?_
      rw [← HTT.out]
      rintro e w3 ⟨rfl, hb3'⟩
      have hbw3 : Below w.heap.size w w3 := hb1.trans (hb3'.mono hb1.size)
      go_wp2_with fail
      refine (implParse_any t w3 hts (hT.below hbw3)).mono ?_
      rw [HPT.out]
      simp only [HCC.out]
      rintro e w4 ⟨A4, n4, cap4, rfl, ha4, hb4'⟩
      have hbw4 : Below w.heap.size w w4 := hbw3.trans (hb4'.mono hbw3.size)
      go_wp2_with fail
      refine (implFormat_any c A4 n4 cap4 fs _ ha4 hfit.out).mono ?_
      rw [← HTT.out]
      rintro e w5 ⟨rfl, hb5'⟩
      have hbw5 : Below w.heap.size w w5 := hbw4.trans (hb5'.mono hbw4.size)
      go_wp2_with fail
      refine (reads_any w5 (hT.below hbw5)).mono ?_
      rintro e w6 ⟨rfl, hb6'⟩
      have hbw6 : Below w.heap.size w w6 := hbw5.trans (hb6'.mono hbw5.size)
      go_wp2_with fail
      refine (writes_any w6).mono ?_
      rintro e w7 ⟨rfl, hb7'⟩
      have hbw7 : Below w.heap.size w w7 := hbw6.trans (hb7'.mono hbw6.size)
      go_wp2
      go_ret
      exact ⟨rfl, hbw7⟩
    · have hse : s.toList.isEmpty = false := by
        rw [Lib.toList_data]
        cases hx : s.data.toList with
        | nil => exact absurd (by rw [← size_list, hx]; rfl) h0
        | cons a r => rfl
      have hpos : 0 < s.size := by omega
      cases h13 : ((s[s.size - 1].toNat : Int) == 13)
      · go_enter Tryd.func8, Tryd.ntmps8
        go_wp2_with fail
        refine (implParse_any s w (by omega) hT).mono ?_
        rw [← HC.out]
        rintro e w1 ⟨A, n, cap, rfl, ha, hb1⟩
        rw [← HFS.out] at ha
        go_wp2_with fail
        refine (implFormat_any c A n cap fs _ ha hfit.out).mono ?_
        rw [← HTT.out]
        rintro e w3 ⟨rfl, hb3'⟩
        have hbw3 : Below w.heap.size w w3 := hb1.trans (hb3'.mono hb1.size)
        go_wp2_with fail
        refine (implParse_any t w3 hts (hT.below hbw3)).mono ?_
        rw [HPT.out]
        simp only [HCC.out]
        rintro e w4 ⟨A4, n4, cap4, rfl, ha4, hb4'⟩
        have hbw4 : Below w.heap.size w w4 := hbw3.trans (hb4'.mono hbw3.size)
        go_wp2_with fail
        refine (implFormat_any c A4 n4 cap4 fs _ ha4 hfit.out).mono ?_
        rw [← HTT.out]
        rintro e w5 ⟨rfl, hb5'⟩
        have hbw5 : Below w.heap.size w w5 := hbw4.trans (hb5'.mono hbw4.size)
        go_wp2_with fail
        refine (reads_any w5 (hT.below hbw5)).mono ?_
        rintro e w6 ⟨rfl, hb6'⟩
        have hbw6 : Below w.heap.size w w6 := hbw5.trans (hb6'.mono hbw5.size)
        go_wp2_with fail
        refine (writes_any w6).mono ?_
        rintro e w7 ⟨rfl, hb7'⟩
        have hbw7 : Below w.heap.size w w7 := hbw6.trans (hb7'.mono hbw6.size)
        go_wp2
        go_ret
        exact ⟨rfl, hbw7⟩
      · go_enter Tryd.func8, Tryd.ntmps8
        go_wp2
        go_ret
        exact ⟨rfl, Below.refl _ _⟩
end Go.Proofs.YtoojofakgjmagaaDoor.Tx
