/-
  The walk of laws.reads. Conditions: as those of impl.Parse.
-/
import Derived.Test.YtmogecodjiofeaaDoorImpP
namespace Go.Proofs.YtmogecodjiofeaaDoor.Tx
open Go Go.RowKit

theorem reads_eq : parse (⟨#[45, 45, 32, 97, 32, 45, 45, 10, 98, 10]⟩ : ByteArray).data.toList = ([], [([97], [98, 10])]) := law_reads

set_option maxHeartbeats 3200000 in
set_option maxRecDepth 100000 in
theorem reads_any (w : World) (hT : Tabs w) : Calls Tryd.prog 17 #[] w fun e w' => e = .returned (.bool true) ∧ Below w.heap.size w w' := by
  have HR := Lib.hid reads_eq
  go_enter Tryd.func17, Tryd.ntmps17
  go_wp2_with fail
  refine (implParse_any ⟨#[45, 45, 32, 97, 32, 45, 45, 10, 98, 10]⟩ _ (by decide) hT).mono ?_
  rw [HR.out]
  rintro e w1 ⟨A, n, cap, rfl, ha, hb⟩
  have hn : n = 1 := ha.1.out
  subst hn
  obtain ⟨b, o, s, t, rfl, hbw, hc1, hc2, hs, ht⟩ := row_file ha.2.2 (k := 0) (by simp)
  have hs' : s = ⟨#[97]⟩ := ba_eq (by rw [hs]; rfl)
  have ht' : t = ⟨#[98, 10]⟩ := ba_eq (by rw [ht]; rfl)
  subst hs' ht'
  rw [Nat.zero_mul, Nat.add_zero] at hc1 hc2
  have hk1 := fun o => cell_one hc1 o
  have hk2 := fun o => cell_one hc2 o
  have hbb := hb.alloc hb.size
  clear ha hs ht
  go_wp2
  go_ret
  exact ⟨rfl, hbb _⟩
end Go.Proofs.YtmogecodjiofeaaDoor.Tx
