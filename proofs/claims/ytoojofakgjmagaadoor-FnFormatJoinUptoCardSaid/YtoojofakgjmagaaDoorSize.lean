/-
  The walks of the statements' size tests: they answer true at archives that are small enough. Conditions: each text and name, and their number, less than 2^31.
-/
import Derived.Test.YtoojofakgjmagaaDoorChecked
import Derived.Test.YtoojofakgjmagaaDoorFA
import Derived.WalkLawsBesides
namespace Go.Proofs.YtoojofakgjmagaaDoor.Tx
open Go Go.RowKit

theorem fits3_any (s t : ByteArray) (w : World) (hs : s.size ≤ 2147483647) (ht : t.size ≤ 2147483647) : Calls Tryd.prog 32 #[.agg #[.string s, .string t]] w fun e w' => e = .returned (.bool true) ∧ Below w.heap.size w w' := by
  go_enter Tryd.func32, Tryd.ntmps32
  go_wp2
  go_ret
  exact ⟨rfl, (Below.refl _ _).alloc (Nat.le_refl _) _⟩

set_option maxHeartbeats 800000 in
theorem fits2_any (A : Option Addr) (n cap : Nat) (fs : List (Bs × Bs)) (w : World) (h : FArgs w A n cap fs) (hf : Hid (∀ f ∈ fs, f.1.length ≤ 2147483647 ∧ f.2.length ≤ 2147483647)) (hn : n ≤ 2147483647) :
    Calls Tryd.prog 21 #[.slice A n cap] w fun e w' => e = .returned (.bool true) ∧ Below w.heap.size w w' := by
  go_enter Tryd.func21, Tryd.ntmps21
  go_wp2
  go_loopw [10] (fun i wr => ∃ k : Nat, k ≤ n ∧ i = .int .i64 k ∧ Below w.heap.size w wr) (fun i _ => n - (intOf i).toNat)
  case atStart => exact ⟨0, by omega, rfl, Below.refl _ _⟩
  case round =>
    obtain ⟨k, hk, rfl, hb⟩ := hrel
    have hsz := hb.size
    by_cases hlt : k < n
    · have hkl : k < fs.length := by rw [← h.1.out]; exact hlt
      obtain ⟨b, off, s, t, rfl, hbw, hc1, hc2, hs, ht⟩ := row_file (h.2.2.below hb) hkl
      have hls : s.size ≤ 2147483647 := by rw [← size_list, hs]; exact (hf.out _ (List.getElem_mem hkl)).1
      have hlt' : t.size ≤ 2147483647 := by rw [← size_list, ht]; exact (hf.out _ (List.getElem_mem hkl)).2
      clear hs ht
      go_wp2_with fail
      refine (fits3_any s t _ hls hlt').mono ?_
      rintro e w' ⟨rfl, hb'⟩
      have hbw' : Below w.heap.size w w' := (hb.alloc hsz _).trans (hb'.mono (by simp; omega))
      clear hb'
      go_wp2
      go_roundw
      case rel => exact ⟨k + 1, by omega, by go_num, hbw'⟩
      case measure => simp [intOf]; omega
    · go_wp2
      go_ret
      exact ⟨rfl, hb⟩

theorem fits1_any (c : ByteArray) (A : Option Addr) (n cap : Nat) (fs : List (Bs × Bs)) (w : World) (h : FArgs w A n cap fs) (hc : c.size ≤ 2147483647) (hf : Hid (∀ f ∈ fs, f.1.length ≤ 2147483647 ∧ f.2.length ≤ 2147483647)) (hn : n ≤ 2147483647) :
    Calls Tryd.prog 12 #[.agg #[.string c, .slice A n cap]] w fun e w' => e = .returned (.bool true) ∧ Below w.heap.size w w' := by
  have hb0 : ∀ o, Below w.heap.size w (w.alloc o) := fun o => (Below.refl _ _).alloc (Nat.le_refl _) o
  go_enter Tryd.func12, Tryd.ntmps12
  go_wp2_with fail
  refine (fits2_any A n cap fs _ (h.below (hb0 _)) hf hn).mono ?_
  rintro e w1 ⟨rfl, hb1⟩
  go_wp2
  go_ret
  exact ⟨rfl, (hb0 _).trans (hb1.mono (by simp))⟩
end Go.Proofs.YtoojofakgjmagaaDoor.Tx
