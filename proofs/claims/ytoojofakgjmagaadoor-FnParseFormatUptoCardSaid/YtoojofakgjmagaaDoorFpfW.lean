/-
  The walk of the statement FnParseFormat: it answers true at every small archive. Conditions: names, texts and comment together at most 2^20; the library's four tables as their initialisers lay them.
-/
import Derived.Test.YtoojofakgjmagaaDoorSmall
import Derived.Test.YtoojofakgjmagaaDoorGood
import Derived.Test.YtoojofakgjmagaaDoorClo
import Derived.Test.YtoojofakgjmagaaDoorSame
namespace Go.Proofs.YtoojofakgjmagaaDoor.Tx
open Go Go.RowKit

set_option maxHeartbeats 6400000 in
set_option maxRecDepth 100000 in
theorem fpf_walk (c : ByteArray) (A : Option Addr) (n cap : Nat) (fs : List (Bs × Bs)) (w : World) (ha : FArgs w A n cap fs) (hsm : c.data.toList.length + sumOf fs ≤ 1048576) (hT : Tabs w) :
    Calls Tryd.prog 9 #[.agg #[.string c, .slice A n cap]] w fun e w' => e = .returned (.bool true) ∧ Below w.heap.size w w' := by
  obtain ⟨hfit, hcs, hns, heach, hwide⟩ := small_of ha.1.out hsm
  have hflen := format_sum c.data.toList fs
  obtain ⟨t, ht⟩ : ∃ t, t = S (format (c.data.toList, fs)) := ⟨_, rfl⟩
  obtain ⟨x, hx⟩ : ∃ x, x = endedS c := ⟨_, rfl⟩
  have htz : t.size ≤ 17179869184 := by rw [ht, S_size]; omega
  have hb0 : ∀ o, Below w.heap.size w (w.alloc o) := fun o => (Below.refl _ _).alloc (Nat.le_refl _) o
  have HF := Lib.hid hfit
  have HE := Lib.hid heach
  have HW := Lib.hid hwide
  have HG := Lib.hid (p := ∀ f ∈ fs, f.1.length ≤ 4294967295 ∧ f.2.length ≤ 4294967295) (fun f hf => by have := heach f hf; omega)
  have HTOT := Lib.hid hfit.2.2.2
  have HTT := Lib.hid ht
  have HX := Lib.hid hx
  have HSM := Lib.hid hsm
  clear ht hx hfit heach hwide hflen hsm
  cases hgd : goodB c fs
  · go_enter Tryd.func9, Tryd.ntmps9
    go_wp2_with fail
    refine (fits1_any c A n cap fs _ (ha.below (hb0 _)) (by omega) HE (by omega)).mono ?_
    rintro e w2 ⟨rfl, hb2'⟩
    have hbw2 : Below w.heap.size w w2 := (hb0 _).trans (hb2'.mono (by simp))
    have hk20 : w2.cell? ⟨w.heap.size, 0, none⟩ = some (.string c) := (hb2'.cell (p := ⟨w.heap.size, 0, none⟩) (by simp)).trans (by rw [Lib.cell_of_heap (heap_alloc_new w _)]; rfl)
    have hk21 : w2.cell? ⟨w.heap.size, 1, none⟩ = some (.slice A n cap) := (hb2'.cell (p := ⟨w.heap.size, 1, none⟩) (by simp)).trans (by rw [Lib.cell_of_heap (heap_alloc_new w _)]; rfl)
    have hlt2 : w.heap.size < w2.heap.size := by have := hb2'.size; simp at this; omega
    clear hb2'
    go_wp2_with fail
    refine (good_any c A n cap fs w2 (ha.below hbw2) (by omega) HG (by omega)).mono ?_
    rw [hgd]
    rintro e w3 ⟨rfl, hb3'⟩
    have hbw3 : Below w.heap.size w w3 := hbw2.trans (hb3'.mono hbw2.size)
    have hk30 := (hb3'.cell (p := ⟨w.heap.size, 0, none⟩) hlt2).trans hk20
    have hk31 := (hb3'.cell (p := ⟨w.heap.size, 1, none⟩) hlt2).trans hk21
    have hlt3 : w.heap.size < w3.heap.size := Nat.lt_of_lt_of_le hlt2 hb3'.size
    clear hb3' hk20 hk21
    go_wp2
    go_ret
    exact ⟨rfl, hbw3⟩
  · have hpf := law_parseFormat (a := (c.data.toList, fs)) hgd
    have HP1 := Lib.hid (p := S (parse t.data.toList).1 = x) (by rw [HTT.out, S_data, hpf, HX.out]; rfl)
    have HP2 := Lib.hid (p := (parse t.data.toList).2 = closedFs fs) (by rw [HTT.out, S_data, hpf]; rfl)
    have hcl : (closedFs fs).length ≤ 17179869184 := by
      have := ha.1.out
      unfold closedFs
      rw [List.length_map]
      omega
    clear hpf
    go_enter Tryd.func9, Tryd.ntmps9
    go_wp2_with fail
    refine (fits1_any c A n cap fs _ (ha.below (hb0 _)) (by omega) HE (by omega)).mono ?_
    rintro e w2 ⟨rfl, hb2'⟩
    have hbw2 : Below w.heap.size w w2 := (hb0 _).trans (hb2'.mono (by simp))
    have hk20 : w2.cell? ⟨w.heap.size, 0, none⟩ = some (.string c) := (hb2'.cell (p := ⟨w.heap.size, 0, none⟩) (by simp)).trans (by rw [Lib.cell_of_heap (heap_alloc_new w _)]; rfl)
    have hk21 : w2.cell? ⟨w.heap.size, 1, none⟩ = some (.slice A n cap) := (hb2'.cell (p := ⟨w.heap.size, 1, none⟩) (by simp)).trans (by rw [Lib.cell_of_heap (heap_alloc_new w _)]; rfl)
    have hlt2 : w.heap.size < w2.heap.size := by have := hb2'.size; simp at this; omega
    clear hb2'
    go_wp2_with fail
    refine (good_any c A n cap fs w2 (ha.below hbw2) (by omega) HG (by omega)).mono ?_
    rw [hgd]
    rintro e w3 ⟨rfl, hb3'⟩
    have hbw3 : Below w.heap.size w w3 := hbw2.trans (hb3'.mono hbw2.size)
    have hk30 := (hb3'.cell (p := ⟨w.heap.size, 0, none⟩) hlt2).trans hk20
    have hk31 := (hb3'.cell (p := ⟨w.heap.size, 1, none⟩) hlt2).trans hk21
    have hlt3 : w.heap.size < w3.heap.size := Nat.lt_of_lt_of_le hlt2 hb3'.size
    clear hb3' hk20 hk21
    go_wp2_with fail
    go_region_with (first
      | (go_at_call 14; refine (implFormat_any c A n cap fs _ (ha.below (by exact hbw3.drew)) HF.out).mono ?_; rw [← HTT.out]; rintro e w4 ⟨rfl, hb4'⟩; have hb4 : Below w3.heap.size w3 w4 := (Below.refl _ w3).drew.trans hb4'; have hk40 := (hb4.cell (p := ⟨w.heap.size, 0, none⟩) hlt3).trans hk30; have hk41 := (hb4.cell (p := ⟨w.heap.size, 1, none⟩) hlt3).trans hk31; have hbw4 : Below w.heap.size w w4 := hbw3.trans (hb4.mono hbw3.size))
      | (go_at_call 18; refine (implParse_any t w4 htz (hT.below hbw4)).mono ?_; rw [HP1.out, HP2.out]; rintro e w5 ⟨A5, n5, cap5, rfl, ha5, hb5'⟩; have hb5 : Below w3.heap.size w3 w5 := hb4.trans (hb5'.mono hb4.size); have hk50 := (hb5.cell (p := ⟨w.heap.size, 0, none⟩) hlt3).trans hk30; have hk51 := (hb5.cell (p := ⟨w.heap.size, 1, none⟩) hlt3).trans hk31; have hbw5 : Below w.heap.size w w5 := hbw3.trans (hb5.mono hbw3.size))
      | (go_at_call 23; refine (closed_any c A n cap fs w5 (ha.below hbw5) (by omega) HW (by omega)).mono ?_; rw [← HX.out]; rintro e w6 ⟨A6, n6, cap6, rfl, ha6, hb6'⟩; have hbw6 : Below w.heap.size w w6 := hbw5.trans (hb6'.mono hbw5.size))
      | (go_at_call 22; refine (same_any x A5 A6 n5 cap5 n6 cap6 (closedFs fs) w6 (ha5.below hb6') ha6 (by rw [ha5.1.out]; exact hcl)).mono ?_; rintro e w7 ⟨rfl, hb7'⟩; have hbw7 : Below w.heap.size w w7 := hbw6.trans (hb7'.mono hbw6.size))
      | (go_at_call 19; refine (reads_any w7 (hT.below hbw7)).mono ?_; rintro e w8 ⟨rfl, hb8'⟩; have hbw8 : Below w.heap.size w w8 := hbw7.trans (hb8'.mono hbw7.size)))
    all_goals
      go_wp2
      go_ret
      exact ⟨rfl, hbw8⟩
end Go.Proofs.YtoojofakgjmagaaDoor.Tx
