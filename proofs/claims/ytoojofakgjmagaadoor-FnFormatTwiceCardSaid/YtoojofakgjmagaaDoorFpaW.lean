/-
  The walk of the statement FnFormatParse: it answers true at every string. Condition: the library's four tables as their initialisers lay them.
-/
import Derived.Test.YtoojofakgjmagaaDoorSame
namespace Go.Proofs.YtoojofakgjmagaaDoor.Tx
open Go Go.RowKit

theorem le_sum : ∀ {l : List Nat} {x : Nat}, x ∈ l → x ≤ l.sum
  | y :: r, x, h => by
    rcases List.mem_cons.1 h with rfl | h
    · simp
    · have := le_sum h
      simp
      omega
/-- what was read of a text is small enough to be written -/
theorem fit_parsed {l : Bs} (h : l.length ≤ 2147483647) : Fit64 (parse l).1 (parse l).2 ∧ (format (parse l)).length ≤ 4294967296 := by
  have h1 := law_parseSize l
  have hf : ∀ f ∈ (parse l).2, f.2.length + f.1.length + 6 ≤ ((parse l).2.map fun f => f.2.length + f.1.length + 6).sum := fun f hf =>
    le_sum (List.mem_map.2 ⟨f, hf, rfl⟩)
  have h2 := format_length_le (parse l)
  have h3 : (((parse l).2.map fun f => f.1.length + f.2.length + 8).sum) * 3 ≤ ((parse l).2.map fun f => f.2.length + f.1.length + 6).sum * 4 := by
    generalize (parse l).2 = fs
    induction fs with
    | nil => simp
    | cons f r ih => simp only [List.map_cons, List.sum_cons]; omega
  have hfc := files_count l
  have h4 : (format (parse l)).length ≤ 4294967296 := by omega
  exact ⟨⟨by omega, fun f hf' => ⟨by have := hf f hf'; omega, by have := hf f hf'; omega⟩, by omega, by show (format (parse l)).length ≤ _; omega⟩, h4⟩

set_option maxHeartbeats 3200000 in
set_option maxRecDepth 100000 in
theorem fpa_walk (s : ByteArray) (w : World) (hT : Tabs w) : Calls Tryd.prog 11 #[.string s] w fun e w' => e = .returned (.bool true) ∧ Below w.heap.size w w' := by
  by_cases hs : (2147483647 : Int) < (s.size : Int)
  · go_enter Tryd.func11, Tryd.ntmps11
    go_wp2
    go_ret
    exact ⟨rfl, Below.refl _ _⟩
  · have hl : s.data.toList.length ≤ 2147483647 := by rw [size_list]; omega
    obtain ⟨c, hc⟩ : ∃ c, c = S (parse s.data.toList).1 := ⟨_, rfl⟩
    obtain ⟨fs, hfs⟩ : ∃ fs, fs = (parse s.data.toList).2 := ⟨_, rfl⟩
    have hce : (c.data.toList, fs) = parse s.data.toList := by rw [hc, S_data, hfs]
    obtain ⟨t, ht⟩ : ∃ t, t = S (format (c.data.toList, fs)) := ⟨_, rfl⟩
    have hfit : Hid (Fit64 c.data.toList fs) := by
      rw [hc, S_data, hfs]
      exact (fit_parsed hl).1
    have hts : t.size ≤ 4294967296 := by
      rw [ht, S_size, hce]
      exact (fit_parsed hl).2
    have hpt : parse t.data.toList = (c.data.toList, fs) := by
      rw [ht, S_data, hce]
      exact law_formatParse _
    have hn : fs.length ≤ 4294967296 := by
      rw [hfs]
      have := files_count s.data.toList
      omega
    have hcc : S c.data.toList = c := S_of c
    have HC := Lib.hid hc
    have HFS := Lib.hid hfs
    have HTT := Lib.hid ht
    have HPT := Lib.hid hpt
    have HCC := Lib.hid hcc
    clear hc hfs ht hpt hcc hce
    by_cases h0 : s.size = 0
    · have hse : s.toList.isEmpty = true := by
        rw [Lib.toList_data, List.isEmpty_iff]
        exact List.eq_nil_of_length_eq_zero (by rw [size_list]; exact h0)
      go_enter Tryd.func11, Tryd.ntmps11
      go_wp2_with fail
      refine (implParse_any s w (by omega) hT).mono ?_
      rw [← HC.out]
      rintro e w1 ⟨A, n, cap, rfl, ha, hb1⟩
      rw [← HFS.out] at ha
      obtain ⟨w2, hw2⟩ : ∃ w2, w2 = w1.alloc (.cells #[.string c, .slice A n cap] 24) := ⟨_, rfl⟩
      have hb2 : Below w1.heap.size w1 w2 := by rw [hw2]; exact (Below.refl _ _).alloc (Nat.le_refl _) _
      have hk0 : w2.cell? ⟨w1.heap.size, 0, none⟩ = some (.string c) := by rw [hw2, Lib.cell_of_heap (heap_alloc_new w1 _)]; rfl
      have hk1 : w2.cell? ⟨w1.heap.size, 1, none⟩ = some (.slice A n cap) := by rw [hw2, Lib.cell_of_heap (heap_alloc_new w1 _)]; rfl
      have hlt2 : w1.heap.size < w2.heap.size := by rw [hw2]; simp
      go_wp2_with fail
      rw [← hw2]
      clear hw2
      have hbw2 : Below w.heap.size w w2 := hb1.trans (hb2.mono hb1.size)
      go_region_with (first
        | (go_at_call 14; refine (implFormat_any c A n cap fs _ (ha.below hb2.drew) hfit.out).mono ?_; rw [← HTT.out]; rintro e w3 ⟨rfl, hb3'⟩; have hb3 : Below w2.heap.size w2 w3 := (Below.refl _ w2).drew.trans hb3'; have hk30 := (hb3.cell (p := ⟨w1.heap.size, 0, none⟩) hlt2).trans hk0; have hk31 := (hb3.cell (p := ⟨w1.heap.size, 1, none⟩) hlt2).trans hk1; have hbw3 : Below w.heap.size w w3 := hbw2.trans (hb3.mono hbw2.size))
        | (go_at_call 18; refine (implParse_any t w3 hts (hT.below hbw3)).mono ?_; rw [HPT.out]; simp only [HCC.out]; rintro e w4 ⟨A4, n4, cap4, rfl, ha4, hb4'⟩; have hb4 : Below w2.heap.size w2 w4 := hb3.trans (hb4'.mono hb3.size); have hk40 := (hb4.cell (p := ⟨w1.heap.size, 0, none⟩) hlt2).trans hk0; have hk41 := (hb4.cell (p := ⟨w1.heap.size, 1, none⟩) hlt2).trans hk1; have hbw4 : Below w.heap.size w w4 := hbw2.trans (hb4.mono hbw2.size))
        | (go_at_call 22; refine (same_any c A4 A n4 cap4 n cap fs w4 ha4 (ha.below (hb2.trans (hb4.mono hb2.size))) (by rw [ha4.1.out]; exact hn)).mono ?_; rintro e w5 ⟨rfl, hb5'⟩; have hbw5 : Below w.heap.size w w5 := hbw4.trans (hb5'.mono hbw4.size))
        | (go_at_call 19; refine (reads_any w5 (hT.below hbw5)).mono ?_; rintro e w6 ⟨rfl, hb6'⟩; have hbw6 : Below w.heap.size w w6 := hbw5.trans (hb6'.mono hbw5.size)))
      all_goals
        go_wp2
        go_ret
        exact ⟨rfl, hbw6⟩
    · have hse : s.toList.isEmpty = false := by
        rw [Lib.toList_data]
        cases hx : s.data.toList with
        | nil => exact absurd (by rw [← size_list, hx]; rfl) h0
        | cons a r => rfl
      have hpos : 0 < s.size := by omega
      cases h13 : ((s[s.size - 1].toNat : Int) == 13)
      · go_enter Tryd.func11, Tryd.ntmps11
        go_wp2_with fail
        refine (implParse_any s w (by omega) hT).mono ?_
        rw [← HC.out]
        rintro e w1 ⟨A, n, cap, rfl, ha, hb1⟩
        rw [← HFS.out] at ha
        obtain ⟨w2, hw2⟩ : ∃ w2, w2 = w1.alloc (.cells #[.string c, .slice A n cap] 24) := ⟨_, rfl⟩
        have hb2 : Below w1.heap.size w1 w2 := by rw [hw2]; exact (Below.refl _ _).alloc (Nat.le_refl _) _
        have hk0 : w2.cell? ⟨w1.heap.size, 0, none⟩ = some (.string c) := by rw [hw2, Lib.cell_of_heap (heap_alloc_new w1 _)]; rfl
        have hk1 : w2.cell? ⟨w1.heap.size, 1, none⟩ = some (.slice A n cap) := by rw [hw2, Lib.cell_of_heap (heap_alloc_new w1 _)]; rfl
        have hlt2 : w1.heap.size < w2.heap.size := by rw [hw2]; simp
        go_wp2_with fail
        rw [← hw2]
        clear hw2
        have hbw2 : Below w.heap.size w w2 := hb1.trans (hb2.mono hb1.size)
        go_region_with (first
          | (go_at_call 14; refine (implFormat_any c A n cap fs _ (ha.below hb2.drew) hfit.out).mono ?_; rw [← HTT.out]; rintro e w3 ⟨rfl, hb3'⟩; have hb3 : Below w2.heap.size w2 w3 := (Below.refl _ w2).drew.trans hb3'; have hk30 := (hb3.cell (p := ⟨w1.heap.size, 0, none⟩) hlt2).trans hk0; have hk31 := (hb3.cell (p := ⟨w1.heap.size, 1, none⟩) hlt2).trans hk1; have hbw3 : Below w.heap.size w w3 := hbw2.trans (hb3.mono hbw2.size))
          | (go_at_call 18; refine (implParse_any t w3 hts (hT.below hbw3)).mono ?_; rw [HPT.out]; simp only [HCC.out]; rintro e w4 ⟨A4, n4, cap4, rfl, ha4, hb4'⟩; have hb4 : Below w2.heap.size w2 w4 := hb3.trans (hb4'.mono hb3.size); have hk40 := (hb4.cell (p := ⟨w1.heap.size, 0, none⟩) hlt2).trans hk0; have hk41 := (hb4.cell (p := ⟨w1.heap.size, 1, none⟩) hlt2).trans hk1; have hbw4 : Below w.heap.size w w4 := hbw2.trans (hb4.mono hbw2.size))
          | (go_at_call 22; refine (same_any c A4 A n4 cap4 n cap fs w4 ha4 (ha.below (hb2.trans (hb4.mono hb2.size))) (by rw [ha4.1.out]; exact hn)).mono ?_; rintro e w5 ⟨rfl, hb5'⟩; have hbw5 : Below w.heap.size w w5 := hbw4.trans (hb5'.mono hbw4.size))
          | (go_at_call 19; refine (reads_any w5 (hT.below hbw5)).mono ?_; rintro e w6 ⟨rfl, hb6'⟩; have hbw6 : Below w.heap.size w w6 := hbw5.trans (hb6'.mono hbw5.size)))
        all_goals
          go_wp2
          go_ret
          exact ⟨rfl, hbw6⟩
      · go_enter Tryd.func11, Tryd.ntmps11
        go_wp2
        go_ret
        exact ⟨rfl, Below.refl _ _⟩
end Go.Proofs.YtoojofakgjmagaaDoor.Tx
