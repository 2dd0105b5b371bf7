/-
  The walk of the reference's Good: it answers as the plain layer's Bool of that name. Condition: names and texts of less than 2^32 bytes.
-/
import Derived.Test.YtoojofakgjmagaaDoorFA
import Derived.Test.YtoojofakgjmagaaDoorSpP
namespace Go.Proofs.YtoojofakgjmagaaDoor.Tx
open Go Go.RowKit

def fileOk (f : Bs × Bs) : Bool := namedL f.1 && unmarkedL f.2
def goodB (c : ByteArray) (fs : List (Bs × Bs)) : Bool := goodL (c.data.toList, fs)
theorem good_no {c : ByteArray} {fs : List (Bs × Bs)} {k : Nat} (hk : k < fs.length) (h : fileOk fs[k] = false) : goodB c fs = false := by
  have h1 : (fs.all fun f => namedL f.1 && unmarkedL f.2) = false := all_false (p := fun f : Bs × Bs => namedL f.1 && unmarkedL f.2) hk h
  unfold goodB goodL
  simp only [h1, Bool.false_and]
theorem good_yes {c : ByteArray} {fs : List (Bs × Bs)} (h : fs.all fileOk = true) : goodB c fs = unmarkedB c := by
  have h1 : (fs.all fun f => namedL f.1 && unmarkedL f.2) = true := h
  unfold goodB goodL
  simp only [h1, Bool.true_and]
  rfl

set_option maxHeartbeats 1600000 in
set_option maxRecDepth 100000 in
theorem good_any (c : ByteArray) (A : Option Addr) (n cap : Nat) (fs : List (Bs × Bs)) (w : World) (ha : FArgs w A n cap fs) (hcs : c.size ≤ 4294967295) (hfs : Hid (∀ f ∈ fs, f.1.length ≤ 4294967295 ∧ f.2.length ≤ 4294967295)) (hn : n ≤ 4294967296) :
    Calls Tryd.prog 13 #[.agg #[.string c, .slice A n cap]] w fun e w' => e = .returned (.bool (goodB c fs)) ∧ Below w.heap.size w w' := by
  have hb0 : ∀ o, Below w.heap.size w (w.alloc o) := fun o => (Below.refl _ _).alloc (Nat.le_refl _) o
  go_enter Tryd.func13, Tryd.ntmps13
  go_wp2
  go_loopw [8] (fun i wr => ∃ k : Nat, k ≤ n ∧ i = .int .i64 k ∧ Hid ((fs.take k).all fileOk = true) ∧ wr.cell? ⟨w.heap.size, 0, none⟩ = some (.string c) ∧ w.heap.size < wr.heap.size ∧ Below w.heap.size w wr) (fun i _ => n - (intOf i).toNat)
  case atStart =>
    refine ⟨0, by omega, rfl, by simp [Hid], ?_, by simp, hb0 _⟩
    rw [Lib.cell_of_heap (heap_alloc_new w _)]
    rfl
  case round =>
    obtain ⟨k, hk, rfl, HA, hcc, hlt0, hb⟩ := hrel
    have hsz := hb.size
    by_cases hlt : k < n
    · have hkl : k < fs.length := by rw [← ha.1.out]; exact hlt
      obtain ⟨b, off, s, t, rfl, hbw, hc1, hc2, hs, ht⟩ := row_file (ha.2.2.below hb) hkl
      have hls : s.size ≤ 4294967295 := by rw [← size_list, hs]; exact (hfs.out _ (List.getElem_mem hkl)).1
      have hlt' : t.size ≤ 4294967295 := by rw [← size_list, ht]; exact (hfs.out _ (List.getElem_mem hkl)).2
      have hk0 := fun o => Lib.cell?_alloc_marked o hcc
      have HOK := Lib.hid (p := fileOk fs[k] = (namedB s && unmarkedB t)) (by unfold fileOk namedB unmarkedB; rw [hs, ht])
      clear hs ht
      cases hnm : namedB s
      · have HNO := Lib.hid (good_no (c := c) hkl (by rw [HOK.out, hnm]; rfl))
        go_wp2_with fail
        refine (named_any s _ hls).mono ?_
        rw [hnm]
        rintro e w1 ⟨rfl, rfl⟩
        go_wp2
        go_ret
        exact ⟨ret_eq (congrArg Value.bool HNO.out.symm), hb.alloc hsz _⟩
      · cases hum : unmarkedB t
        · have HNO := Lib.hid (good_no (c := c) hkl (by rw [HOK.out, hnm, hum]; rfl))
          go_wp2_with fail
          refine (named_any s _ hls).mono ?_
          rw [hnm]
          rintro e w1 ⟨rfl, rfl⟩
          go_wp2_with fail
          refine (unmarked_any t _ hlt').mono ?_
          rw [hum]
          rintro e w1 ⟨rfl, hb1⟩
          go_wp2
          go_ret
          exact ⟨ret_eq (congrArg Value.bool HNO.out.symm), (hb.alloc hsz _).trans (hb1.mono (by simp; omega))⟩
        · have HYES := Lib.hid (all_take_succ hkl HA.out (by rw [HOK.out, hnm, hum]; rfl))
          go_wp2_with fail
          refine (named_any s _ hls).mono ?_
          rw [hnm]
          rintro e w1 ⟨rfl, rfl⟩
          go_wp2_with fail
          refine (unmarked_any t _ hlt').mono ?_
          rw [hum]
          rintro e w1 ⟨rfl, hb1⟩
          have hc3 := (hb1.cell (p := ⟨w.heap.size, 0, none⟩) (by simp; omega)).trans (hk0 _)
          have hbw1 : Below w.heap.size w w1 := (hb.alloc hsz _).trans (hb1.mono (by simp; omega))
          have hlt1 : w.heap.size < w1.heap.size := by have := hb1.size; simp at this; omega
          clear hb1
          go_wp2
          go_roundw
          case rel => exact ⟨k + 1, by omega, by go_num, HYES, hc3, hlt1, hbw1⟩
          case measure => simp [intOf]; omega
    · have HY := Lib.hid (good_yes (c := c) (all_of_take (by rw [← ha.1.out]; exact hlt) HA.out))
      go_wp2_with fail
      refine (unmarked_any c _ hcs).mono ?_
      rintro e w1 ⟨rfl, hb1⟩
      go_wp2
      go_ret
      exact ⟨ret_eq (congrArg Value.bool HY.out.symm), hb.trans (hb1.mono hb.size)⟩
end Go.Proofs.YtoojofakgjmagaaDoor.Tx
