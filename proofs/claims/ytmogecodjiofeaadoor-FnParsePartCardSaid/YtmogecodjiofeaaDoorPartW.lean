/-
  The walk of the statement FnParsePart: it answers true at every string and every number. Condition: the library's four tables as their initialisers lay them.
-/
import Derived.Test.YtmogecodjiofeaaDoorPartP
import Derived.BigQuiet
import Derived.StillTailTactics
namespace Go.Proofs.YtmogecodjiofeaaDoor.Tx
open Go Go.RowKit

set_option maxHeartbeats 6400000 in
set_option maxRecDepth 100000 in
theorem part_main (s : ByteArray) (n : Int) (w : World) (hT : Tabs w) (hs : ¬ (2147483647 : Int) < (s.size : Int)) (hse : s.toList.isEmpty = false) (hpos : 0 < s.size) (h13 : ((s[s.size - 1].toNat : Int) == 13) = false) :
    Calls Tryd.prog 7 #[.string s, .int .i64 n] w fun e w' => e = .returned (.bool true) ∧ Below w.heap.size w w' := by
  obtain ⟨ls, hls⟩ : ∃ ls, ls = lines s.data.toList := ⟨_, rfl⟩
  have hfl := lines_flat_le hls
  have hll := lines_le hls
  have hlen := fun (k : Nat) (hk : k < ls.length) => line_len hls hk
  have HN := Lib.hid hlen
  have HLS := Lib.hid hls
  have HFL := Lib.hid (p := ∀ k, (ls.take k).flatten.length ≤ s.size + 1) (fun k => Nat.le_trans (take_flat_le ls k) hfl)
  clear hls hlen hfl
  have hL := fun W => Lib.hid (lines_as s W (by omega) ls HLS)
  by_cases hn0 : n < 0
  · go_enter Tryd.func7, Tryd.ntmps7
    go_wp2_with fail
    refine (hL _).out.mono ?_
    rintro e w2 ⟨A, cap, rfl, hcap, hrow, hb2⟩
    clear hL
    go_wp2
    go_ret
    exact ⟨rfl, hb2⟩
  · by_cases hn1 : (ls.length : Int) < n
    · go_enter Tryd.func7, Tryd.ntmps7
      go_wp2_with fail
      refine (hL _).out.mono ?_
      rintro e w2 ⟨A, cap, rfl, hcap, hrow, hb2⟩
      clear hL
      go_wp2
      go_ret
      exact ⟨rfl, hb2⟩
    · obtain ⟨m, rfl⟩ : ∃ m : Nat, n = (m : Int) := ⟨n.toNat, by omega⟩
      have hml : m ≤ ls.length := by omega
      have hmz : decide ((m : Int) < 0) = false := by simp only [decide_eq_false_iff_not]; omega
      have hmz2 : decide (ls.length < m) = false := by simp only [decide_eq_false_iff_not]; omega
      clear hn0 hn1
      have HLP := Lib.hid (law_parsePart s.data.toList m)
      rw [← HLS.out] at HLP
      go_enter Tryd.func7, Tryd.ntmps7
      go_wp2_with fail
      refine (hL _).out.mono ?_
      rintro e w2 ⟨A, cap, rfl, hcap, hrow, hb2⟩
      clear hL
      have hs1 : ∀ W : World, (Instr.slice 23 (.slice A ls.length cap) none (some (.int .i64 (m : Int))) none).run Tryd.prog W = .ok (.slice A m cap) W := fun W => by
        rw [run_slice_h W _ _ _ _ (by kernel_rfl) .i64 _ (by omega) (by omega), show Tryd.prog.elem 23 = 9 from by kernel_rfl, show (Go.sizeOf 9).run Tryd.prog W = .ok 1 W from by kernel_rfl]
        simp [Result.andThen, sliced, Addr.add]
      go_wp2_with fail
      go_loop [6, 41] (fun v i => ∃ (k : Nat) (o : ByteArray), k ≤ m ∧ i = .int .i64 k ∧ v = .string o ∧ Hid (o.data.toList = (ls.take k).flatten)) (fun _ i => m - (intOf i).toNat)
      case atStart => exact ⟨0, ⟨#[]⟩, by omega, rfl, rfl, rfl⟩
      case round =>
        obtain ⟨k, o, hk, rfl, rfl, HO⟩ := hrel
        have hos : o.size ≤ s.size + 1 := by rw [← size_list, HO.out]; exact HFL.out k
        by_cases hlt : k < m
        · obtain ⟨b, off, t, rfl, hbt, hct, ht⟩ := row_string hrow (show k < ls.length by omega)
          have hn := HN.out k (by omega)
          rw [← ht, size_list] at hn
          have HT := Lib.hid ht
          clear ht
          go_wp2
          go_round
          case rel => exact ⟨k + 1, o ++ t, by omega, by go_num, rfl, by
            refine Lib.hid ?_
            rw [flat_take_succ (by omega), append_list, HO.out, HT.out]⟩
          case measure => simp [intOf]; omega
        · have hkm : k = m := by omega
          have hpart := HLP.out
          rw [← hkm, ← HO.out] at hpart
          clear hkm
          obtain ⟨c1, hc1⟩ : ∃ c, c = S (parse o.data.toList).1 := ⟨_, rfl⟩
          obtain ⟨f1, hf1⟩ : ∃ f, f = (parse o.data.toList).2 := ⟨_, rfl⟩
          obtain ⟨c2, hc2⟩ : ∃ c, c = S (parse s.data.toList).1 := ⟨_, rfl⟩
          obtain ⟨f2, hf2⟩ : ∃ f, f = (parse s.data.toList).2 := ⟨_, rfl⟩
          have hcom := prefix_extract (a := c1) (b := c2) (by rw [hc1, hc2, S_data, S_data]; exact hpart.com)
          have hcle := hcom.1
          have hcex := hcom.2
          have HFI := Lib.hid (p := ∀ (k : Nat) f, f1[k]? = some f → ∃ x, f2[k]? = some x ∧ f.1 = x.1 ∧ f.2 <+: x.2 ∧ (k + 1 < f1.length → f = x)) (by rw [hf1, hf2]; exact hpart.file)
          have HLE := Lib.hid (p := f1.length ≤ f2.length) (by rw [hf1, hf2]; exact hpart.len)
          have HWH := Lib.hid (p := f1 = [] ∨ c1 = c2) (by
            rw [hf1, hc1, hc2]
            rcases hpart.whole with h | h
            · exact .inl h
            · exact .inr (congrArg S h))
          have HNN := Lib.hid (p := f1.length ≤ 4294967296) (by
            have := files_count o.data.toList
            rw [size_list] at this
            rw [hf1]
            omega)
          have HC1 := Lib.hid hc1
          have HF1 := Lib.hid hf1
          have HC2 := Lib.hid hc2
          have HF2 := Lib.hid hf2
          clear hc1 hf1 hc2 hf2 hpart hcom
          go_wp2_with fail
          refine (implParse_any o w2 (by omega) (hT.below hb2)).mono ?_
          rw [← HC1.out, ← HF1.out]
          rintro e w3 ⟨B1, n1, p1, rfl, ha1, hb3'⟩
          have hb3 := hb2.trans (hb3'.mono hb2.size)
          go_wp2_with fail
          refine (implParse_any s w3 (by omega) (hT.below hb3)).mono ?_
          rw [← HC2.out, ← HF2.out]
          rintro e w4 ⟨B2, n2, p2, rfl, ha2, hb4'⟩
          have hb4 := hb3.trans (hb4'.mono hb3.size)
          have HA1 := Lib.hid (ha1.below hb4')
          have HA2 := Lib.hid ha2
          have hn12 : n1 ≤ n2 := by rw [ha1.1.out, ha2.1.out]; exact HLE.out
          have hd12 : decide (n2 < n1) = false := by simp only [decide_eq_false_iff_not]; omega
          have hd12' : ((n1 : Int) ≤ (n2 : Int)) := by omega
          have hn1b : n1 ≤ 4294967296 := by rw [ha1.1.out]; exact HNN.out
          obtain ⟨w5, hw5⟩ : ∃ w5, w5 = (w4.alloc (.cells #[.string c1, .slice B1 n1 p1] 29)).alloc (.cells #[.string c2, .slice B2 n2 p2] 29) := ⟨_, rfl⟩
          have hr0 : w5.heap[w4.heap.size]? = some (.cells #[.string c1, .slice B1 n1 p1] 29 (0, 0)) := by
            rw [hw5, Below.heap_alloc _ _ _ (by simp)]
            exact heap_alloc_new w4 _
          have hr1 : w5.heap[w4.heap.size + 1]? = some (.cells #[.string c2, .slice B2 n2 p2] 29 (0, 0)) := by
            rw [hw5]
            exact second_block rfl
          have hb45 : Below w4.heap.size w4 w5 := by
            rw [hw5]
            exact ((Below.refl _ _).alloc (Nat.le_refl _) _).alloc (by simp) _
          have hb5 := hb4.trans (hb45.mono hb4.size)
          have hlt5 := Lib.lt_of_heap hr1
          have HR0 := Lib.hid hr0
          have HR1 := Lib.hid hr1
          have HW5 := Lib.hid hw5
          clear hr0 hr1 ha1 ha2 hb3' hb4' hw5
          have hc50 : w5.cell? ⟨w4.heap.size, 0, none⟩ = some (.string c1) := by rw [Lib.cell_of_heap HR0.out]; rfl
          have hc51 : w5.cell? ⟨w4.heap.size, 1, none⟩ = some (.slice B1 n1 p1) := by rw [Lib.cell_of_heap HR0.out]; rfl
          have hc52 : w5.cell? ⟨w4.heap.size + 1, 0, none⟩ = some (.string c2) := by rw [Lib.cell_of_heap HR1.out]; rfl
          have hc53 : w5.cell? ⟨w4.heap.size + 1, 1, none⟩ = some (.slice B2 n2 p2) := by rw [Lib.cell_of_heap HR1.out]; rfl
          go_wp2_with fail
          rw [← HW5.out]
          go_loopw [63] (fun i wr => ∃ j : Nat, j ≤ n1 ∧ i = .int .i64 j ∧ Below w5.heap.size w5 wr) (fun i _ => n1 - (intOf i).toNat)
          case atStart => exact ⟨0, by omega, rfl, by rw [HW5.out]; exact Below.refl _ _⟩
          case round =>
            obtain ⟨j, hj, rfl, hb6⟩ := hrel
            have hsz6 := hb6.size
            have hd50 := (hb6.cell (p := ⟨w4.heap.size, 0, none⟩) (by show w4.heap.size < _; omega)).trans hc50
            have hd51 := (hb6.cell (p := ⟨w4.heap.size, 1, none⟩) (by show w4.heap.size < _; omega)).trans hc51
            have hd52 := (hb6.cell (p := ⟨w4.heap.size + 1, 0, none⟩) hlt5).trans hc52
            have hd53 := (hb6.cell (p := ⟨w4.heap.size + 1, 1, none⟩) hlt5).trans hc53
            have hb46 : Below w4.heap.size w4 wr := hb45.trans (hb6.mono hb45.size)
            have hbw6 : Below w.heap.size w wr := hb5.trans (hb6.mono hb5.size)
            by_cases hlj : j < n1
            · have hj1 : j < f1.length := by rw [← HA1.out.1.out]; exact hlj
              have hj2 : j < f2.length := Nat.lt_of_lt_of_le hj1 HLE.out
              have hjn2 : j < n2 := by omega
              obtain ⟨q, hq, hq1, hq2, hq3⟩ := HFI.out j _ (List.getElem?_eq_getElem hj1)
              rw [List.getElem?_eq_getElem hj2] at hq
              cases hq
              obtain ⟨b1, o1, x1, y1, rfl, hbb1, e1, e2, g1, g2⟩ := row_file (HA1.out.2.2.below hb46) hj1
              obtain ⟨b2, o2, x2, y2, rfl, hbb2, e3, e4, g3, g4⟩ := row_file (HA2.out.2.2.below hb46) hj2
              obtain rfl : x1 = x2 := ba_eq (by rw [g1, g3, hq1])
              have hpe := prefix_extract (a := y1) (b := y2) (by rw [g2, g4]; exact hq2)
              have hw1 : IntKind.i64.wrap ((n1 : Int) - 1) = (n1 : Int) - 1 := IntWalk.i64_in _ (by omega)
              have hk1 := fun o => Lib.cell?_alloc_marked o hd51
              have hk3 := fun o => Lib.cell?_alloc_marked o hd53
              have hk3' := fun o o' => Lib.cell?_alloc_marked o' (hk3 o)
              have hk1' := fun o o' => Lib.cell?_alloc_marked o' (hk1 o)
              have hke3 := fun o => Lib.cell?_alloc_marked o e3
              have hke4 := fun o => Lib.cell?_alloc_marked o e4
              have hfin : Below w5.heap.size w5 (((wr.alloc (.cells #[.string x1, .string y1] 26)).alloc (.cells #[.string x1, .string y2] 26))) := (hb6.alloc hsz6 _).alloc (by simp; omega) _
              clear hs1 hrow hcap hll hml hmz hmz2 hse hpos h13 hb46 hbw6 hb6 hb5 hb45 hb4 hb3 hb2 hc50 hc51 hc52 hc53 hos hT hd50 hd52
              by_cases hlast : j + 1 < n1
              · have hyy := hq3 (by rw [← HA1.out.1.out]; exact hlast)
                obtain rfl : y1 = y2 := ba_eq (by rw [g2, g4, hyy])
                have hyx := hpe.2
                have hjn : decide ((j : Int) < (n1 : Int) - 1) = true := by simp only [decide_eq_true_eq]; omega
                clear hq1 hq2 hq3 g1 g2 g3 g4 hpe hyy
                go_wp2_with fail
                go_quiet (fail)
                go_wp2
                go_roundw
                case rel => exact ⟨j + 1, by omega, by go_num, below_drewN hfin _⟩
                case measure => simp [intOf]; omega
              · have hyx := hpe.2
                have hyl := hpe.1
                have hjn : decide ((j : Int) < (n1 : Int) - 1) = false := by simp only [decide_eq_false_iff_not]; omega
                clear hq1 hq2 hq3 g1 g2 g3 g4 hpe
                go_wp2_with fail
                go_quiet (fail)
                go_wp2
                go_roundw
                case rel => exact ⟨j + 1, by omega, by go_num, below_drewN hfin _⟩
                case measure => simp [intOf]; omega
            · have HT := Lib.hid hT
              have HB6 := Lib.hid hbw6
              clear hb46 hbw6 hb6 hb5 hb45 hb4 hb3 hb2 hs1 hrow hcap hll hml hmz hmz2 hse hpos h13 hlt5 hsz6 hn1b hos hk hc50 hc51 hc52 hc53 hT
              by_cases hn0 : n1 = 0
              · subst hn0
                go_wp2_with fail
                go_still_tail 32, (by kernel_rfl)
                go_wp2_with fail
                refine (reads_any _ (HT.out.below HB6.out.drew)).mono ?_
                rintro e w7 ⟨rfl, hb7⟩
                go_wp2
                go_ret
                exact ⟨rfl, HB6.out.drew.trans (hb7.mono HB6.out.drew.size)⟩
              · have hn0' : ((n1 : Int) == 0) = false := by simp; omega
                obtain rfl : c1 = c2 := by
                  rcases HWH.out with h | h
                  · exact absurd (by rw [HA1.out.1.out, h]; rfl) hn0
                  · exact h
                clear hn0
                go_wp2_with fail
                go_still_tail 32, (by kernel_rfl)
                go_wp2_with fail
                refine (reads_any _ (HT.out.below HB6.out.drew)).mono ?_
                rintro e w7 ⟨rfl, hb7⟩
                go_wp2
                go_ret
                exact ⟨rfl, HB6.out.drew.trans (hb7.mono HB6.out.drew.size)⟩
end Go.Proofs.YtmogecodjiofeaaDoor.Tx
