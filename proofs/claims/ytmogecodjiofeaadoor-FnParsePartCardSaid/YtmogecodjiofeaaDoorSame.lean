/-
  The walk of spec.Same, at two archives that are the same: it answers true. Condition: the archives are laid as rows.
-/
import Derived.Test.YtmogecodjiofeaaDoorReads
import Derived.BigQuiet
namespace Go.Proofs.YtmogecodjiofeaaDoor.Tx
open Go Go.RowKit

set_option maxHeartbeats 3200000 in
set_option maxRecDepth 100000 in
theorem same_any (c : ByteArray) (A B : Option Addr) (n cap m cap' : Nat) (fs : List (Bs × Bs)) (w : World) (h1 : FArgs w A n cap fs) (h2 : FArgs w B m cap' fs) (hn : n ≤ 17179869184) :
    Calls Tryd.prog 14 #[.agg #[.string c, .slice A n cap], .agg #[.string c, .slice B m cap']] w fun e w' => e = .returned (.bool true) ∧ Below w.heap.size w w' := by
  have hmn : m = n := by rw [h1.1.out, h2.1.out]
  subst hmn
  go_enter Tryd.func14, Tryd.ntmps14
  go_wp2_with fail
  go_loopw [5] (fun i wr => ∃ k : Nat, k ≤ m ∧ i = .int .i64 k ∧ wr.heap[w.heap.size]? = some (.cells #[.string c, .slice A m cap] 29 (0, 0)) ∧ wr.heap[w.heap.size + 1]? = some (.cells #[.string c, .slice B m cap'] 29 (0, 0)) ∧ Below w.heap.size w wr) (fun i _ => m - (intOf i).toNat)
  case atStart =>
    refine ⟨0, by omega, rfl, ?_, second_block rfl, ((Below.refl _ _).alloc (Nat.le_refl _) _).alloc (by simp) _⟩
    rw [Below.heap_alloc _ _ _ (by simp)]
    exact heap_alloc_new w _
  case round =>
    obtain ⟨k, hk, rfl, hx, hy, hb⟩ := hrel
    have hx0 : wr.cell? ⟨w.heap.size, 1, none⟩ = some (.slice A m cap) := by rw [Lib.cell_of_heap hx]; rfl
    have hy0 : wr.cell? ⟨w.heap.size + 1, 1, none⟩ = some (.slice B m cap') := by rw [Lib.cell_of_heap hy]; rfl
    have HX := Lib.hid hx
    have HY := Lib.hid hy
    clear hx hy
    by_cases hlt : k < m
    · have hkl : k < fs.length := by rw [← h1.1.out]; exact hlt
      obtain ⟨b, o, s, t, rfl, hbw, hc1, hc2, hs, ht⟩ := row_file (h1.2.2.below hb) hkl
      obtain ⟨b', o', s', t', rfl, hbw', hc1', hc2', hs', ht'⟩ := row_file (h2.2.2.below hb) hkl
      have es : s' = s := ba_eq (by rw [hs, hs'])
      have et : t' = t := ba_eq (by rw [ht, ht'])
      subst es et
      clear hs ht hs' ht'
      go_wp2_with fail
      go_quiet (fail)
      go_wp2
      go_roundw
      case rel => exact ⟨k + 1, by omega, by go_num, HX.out, HY.out, below_drewN hb _⟩
      case measure => simp [intOf]; omega
    · go_wp2
      go_ret
      exact ⟨rfl, hb⟩
end Go.Proofs.YtmogecodjiofeaaDoor.Tx
