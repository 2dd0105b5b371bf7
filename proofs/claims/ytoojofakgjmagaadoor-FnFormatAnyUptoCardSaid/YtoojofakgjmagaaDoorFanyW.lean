/-
  The walk of the statement FnFormatAny: it answers true at every small archive. Condition: names, texts and comment together at most 2^20.
-/
import Derived.Test.YtoojofakgjmagaaDoorSmall
namespace Go.Proofs.YtoojofakgjmagaaDoor.Tx
open Go Go.RowKit

set_option maxHeartbeats 3200000 in
set_option maxRecDepth 100000 in
theorem fany_walk (c : ByteArray) (A : Option Addr) (n cap : Nat) (fs : List (Bs × Bs)) (w : World) (ha : FArgs w A n cap fs) (hsm : c.data.toList.length + sumOf fs ≤ 1048576) :
    Calls Tryd.prog 5 #[.agg #[.string c, .slice A n cap]] w fun e w' => e = .returned (.bool true) ∧ Below w.heap.size w w' := by
  obtain ⟨hfit, hcs, hns, heach, hwide⟩ := small_of ha.1.out hsm
  obtain ⟨t, ht⟩ : ∃ t, t = S (format (c.data.toList, fs)) := ⟨_, rfl⟩
  have hb0 : ∀ o, Below w.heap.size w (w.alloc o) := fun o => (Below.refl _ _).alloc (Nat.le_refl _) o
  have HF := Lib.hid hfit
  have HE := Lib.hid heach
  have HW := Lib.hid hwide
  have HTOT := Lib.hid hfit.2.2.2
  have HTT := Lib.hid ht
  clear ht hfit heach hwide
  go_enter Tryd.func5, Tryd.ntmps5
  go_wp2_with fail
  refine (fits1_any c A n cap fs _ (ha.below (hb0 _)) (by omega) HE (by omega)).mono ?_
  rintro e w3 ⟨rfl, hb3'⟩
  have hbw3 : Below w.heap.size w w3 := (hb0 _).trans (hb3'.mono (by simp))
  have hk30 : w3.cell? ⟨w.heap.size, 0, none⟩ = some (.string c) := (hb3'.cell (p := ⟨w.heap.size, 0, none⟩) (by simp)).trans (by rw [Lib.cell_of_heap (heap_alloc_new w _)]; rfl)
  have hk31 : w3.cell? ⟨w.heap.size, 1, none⟩ = some (.slice A n cap) := (hb3'.cell (p := ⟨w.heap.size, 1, none⟩) (by simp)).trans (by rw [Lib.cell_of_heap (heap_alloc_new w _)]; rfl)
  have hlt3 : w.heap.size < w3.heap.size := by have := hb3'.size; simp at this; omega
  clear hb3'
  go_wp2_with fail
  go_region_with (first
    | (go_at_call 14; refine (implFormat_any c A n cap fs _ (ha.below (by exact hbw3.drew)) HF.out).mono ?_; rw [← HTT.out]; rintro e w4 ⟨rfl, hb4'⟩; have hb4 : Below w3.heap.size w3 w4 := (Below.refl _ w3).drew.trans hb4'; have hk40 := (hb4.cell (p := ⟨w.heap.size, 0, none⟩) hlt3).trans hk30; have hk41 := (hb4.cell (p := ⟨w.heap.size, 1, none⟩) hlt3).trans hk31; have hbw4 : Below w.heap.size w w4 := hbw3.trans (hb4.mono hbw3.size))
    | (go_at_call 15; refine (specFormat_any c A n cap fs w4 ha.1 (ha.2.2.below hbw4) (by omega) HW HTOT (by omega)).mono ?_; rw [← HTT.out]; rintro e w5 ⟨rfl, hb5'⟩; have hbw5 : Below w.heap.size w w5 := hbw4.trans (hb5'.mono hbw4.size))
    | (go_at_call 16; refine (writes_any w5).mono ?_; rintro e w6 ⟨rfl, hb6'⟩; have hbw6 : Below w.heap.size w w6 := hbw5.trans (hb6'.mono hbw5.size)))
  all_goals
    go_wp2
    go_ret
    exact ⟨rfl, hbw6⟩
end Go.Proofs.YtoojofakgjmagaaDoor.Tx
