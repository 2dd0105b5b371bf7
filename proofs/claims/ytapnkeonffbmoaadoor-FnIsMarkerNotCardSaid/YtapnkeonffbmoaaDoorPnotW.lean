/-
  The walk of the statement FnIsMarkerNot: it answers true at every string. Condition: the library's four tables as their initialisers lay them.
-/
import Derived.Test.YtapnkeonffbmoaaDoorImpM
import Derived.Test.YtapnkeonffbmoaaDoorSpA
namespace Go.Proofs.YtapnkeonffbmoaaDoor.Tx
open Go Go.RowKit

theorem head_a : headName (⟨#[45, 45, 32, 97, 32, 45, 45, 10]⟩ : ByteArray).data.toList = [97] := by
  have := (law_isMarker (a := []) (n := [97]) (b := []) (t := []) (by simp) (by simp) (by simp) (by simp) named_a).1
  simpa [mkLine, pre, suf] using this
theorem pre_take_no {s : ByteArray} (h : ¬ pre <+: s.data.toList) (h3 : 3 ≤ s.size) : ((s.extract 0 3).toList == [45, 45, 32]) = false := by
  have h1 : pre.isPrefixOf s.data.toList = false := by
    cases hp : pre.isPrefixOf s.data.toList with
    | false => rfl
    | true => exact absurd (List.isPrefixOf_iff_prefix.1 hp) h
  rw [isPrefixOf_take, size_list] at h1
  have h2 : decide (pre.length ≤ s.size) = true := by simp only [decide_eq_true_eq]; exact h3
  rw [h2, Bool.true_and] at h1
  rw [Lib.toList_data, extract_list, List.drop_zero, Nat.sub_zero]
  exact h1
theorem pre_take {s : ByteArray} (h : pre <+: s.data.toList) : 3 ≤ s.size ∧ ((s.extract 0 3).toList == [45, 45, 32]) = true := by
  have h1 := List.isPrefixOf_iff_prefix.2 h
  rw [isPrefixOf_take, size_list] at h1
  simp only [Bool.and_eq_true, decide_eq_true_eq] at h1
  refine ⟨h1.1, ?_⟩
  rw [Lib.toList_data, extract_list, List.drop_zero, Nat.sub_zero]
  exact h1.2

set_option maxHeartbeats 1600000 in
set_option maxRecDepth 100000 in
theorem pnot_walk (s : ByteArray) (w : World) (hT : Tabs w) : Calls Tryd.prog 3 #[.string s] w fun e w' => e = .returned (.bool true) ∧ Below w.heap.size w w' := by
  by_cases hs : (2147483647 : Int) < (s.size : Int)
  · go_enter Tryd.func3, Tryd.ntmps3
    go_wp2
    go_ret
    exact ⟨rfl, Below.refl _ _⟩
  · by_cases hp : pre <+: s.data.toList
    · obtain ⟨h3, hq⟩ := pre_take hp
      clear hp
      go_enter Tryd.func3, Tryd.ntmps3
      go_wp2_with fail
      refine (implIsMarker_any ⟨#[45, 45, 32, 97, 32, 45, 45, 10]⟩ w (by decide) hT).mono ?_
      rintro e w1 ⟨x, r, rfl, HX, -, hb1⟩
      obtain rfl : x = ⟨#[97]⟩ := ba_eq (by rw [HX.out]; exact head_a)
      go_wp2
      go_ret
      exact ⟨rfl, hb1⟩
    · have HH := Lib.hid (law_isMarkerNot hp)
      by_cases h3 : 3 ≤ s.size
      · have hq := pre_take_no hp h3
        clear hp
        go_enter Tryd.func3, Tryd.ntmps3
        go_wp2_with fail
        refine (implIsMarker_any ⟨#[45, 45, 32, 97, 32, 45, 45, 10]⟩ w (by decide) hT).mono ?_
        rintro e w1 ⟨x, r, rfl, HX, -, hb1⟩
        obtain rfl : x = ⟨#[97]⟩ := ba_eq (by rw [HX.out]; exact head_a)
        go_wp2_with fail
        refine (implIsMarker_any s w1 (by omega) (hT.below hb1)).mono ?_
        rintro e w2 ⟨y, r2, rfl, HY, -, hb2⟩
        obtain rfl : y = ⟨#[]⟩ := ba_eq (by rw [HY.out, HH.out])
        go_wp2
        go_ret
        exact ⟨rfl, hb1.trans (hb2.mono hb1.size)⟩
      · clear hp
        go_enter Tryd.func3, Tryd.ntmps3
        go_wp2_with fail
        refine (implIsMarker_any ⟨#[45, 45, 32, 97, 32, 45, 45, 10]⟩ w (by decide) hT).mono ?_
        rintro e w1 ⟨x, r, rfl, HX, -, hb1⟩
        obtain rfl : x = ⟨#[97]⟩ := ba_eq (by rw [HX.out]; exact head_a)
        go_wp2_with fail
        refine (implIsMarker_any s w1 (by omega) (hT.below hb1)).mono ?_
        rintro e w2 ⟨y, r2, rfl, HY, -, hb2⟩
        obtain rfl : y = ⟨#[]⟩ := ba_eq (by rw [HY.out, HH.out])
        go_wp2
        go_ret
        exact ⟨rfl, hb1.trans (hb2.mono hb1.size)⟩
end Go.Proofs.YtapnkeonffbmoaaDoor.Tx
