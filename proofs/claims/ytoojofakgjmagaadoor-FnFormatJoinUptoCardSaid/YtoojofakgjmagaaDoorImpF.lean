/-
  The walks of impl.Format, of the statements' test writes, and of their size tests: impl.Format returns what the plain layer's format says. Conditions: each name and text at most 2^32 bytes, the whole at most 2^40.
-/
import Derived.Test.YtoojofakgjmagaaDoorOf
import Derived.Test.YtoojofakgjmagaaDoorTxF
import Derived.Test.YtoojofakgjmagaaDoorFA
namespace Go.Proofs.YtoojofakgjmagaaDoor.Tx
open Go Go.RowKit

set_option maxHeartbeats 1600000 in
set_option maxRecDepth 100000 in
theorem implFormat_any (c : ByteArray) (A : Option Addr) (n cap : Nat) (fs : List (Bs × Bs)) (w : World) (ha : FArgs w A n cap fs) (hf : Fit64 c.data.toList fs) :
    Calls Tryd.prog 14 #[.agg #[.string c, .slice A n cap]] w fun e w' => e = .returned (.string (S (format (c.data.toList, fs)))) ∧ Below w.heap.size w w' := by
  obtain ⟨f1, f2, f3, f4⟩ := hf
  have hn64 : n ≤ 4294967296 := by rw [ha.1.out]; exact f3
  have F1 := Lib.hid f1
  have F2 := Lib.hid f2
  have F3 := Lib.hid f3
  have F4 := Lib.hid f4
  clear f1 f2 f3 f4
  have hb0 : Below w.heap.size w (w.alloc (.cells #[.string c, .slice A n cap] 24)) := (Below.refl _ w).alloc (Nat.le_refl _) _
  go_enter Tryd.func14, Tryd.ntmps14
  go_wp2_with fail
  refine (of_any c A n cap fs _ ha.1 (ha.2.2.below hb0) F2 hn64).mono ?_
  rintro e w1 ⟨b, rfl, hta, hb1⟩
  go_wp2_with fail
  refine (txFormat_any b c.data.toList fs w1 hta F1 F2 F4 F3).mono ?_
  rintro e w2 ⟨A2, n2, cap2, rfl, hbs, hb2⟩
  have hst := hbs.rb.strN (P := Tryd.prog) hbs.len 38 5 9 Tryd.underlying38 Tryd.underlying5 Tryd.underlying9 cap2
  have hall : Below w.heap.size w w2 := (hb0.trans (hb1.mono hb0.size)).trans (hb2.mono (hb0.trans (hb1.mono hb0.size)).size)
  clear hbs hb2 hb1
  go_wp2
  go_ret
  exact ⟨rfl, hall⟩

theorem writes_eq : S (format ((⟨#[99, 10]⟩ : ByteArray).data.toList, [])) = ⟨#[99, 10]⟩ := by
  have := law_writes
  exact congrArg S this
set_option maxRecDepth 100000 in
theorem writes_any (w : World) : Calls Tryd.prog 16 #[] w fun e w' => e = .returned (.bool true) ∧ Below w.heap.size w w' := by
  have hw := Lib.hid writes_eq
  go_enter Tryd.func16, Tryd.ntmps16
  go_wp2_with fail
  refine (implFormat_any ⟨#[99, 10]⟩ none 0 0 [] _ (FArgs.nil_ _) ⟨by decide, by simp, by simp, by decide⟩).mono ?_
  rw [hw.out]
  rintro e w1 ⟨rfl, hb1⟩
  go_wp2
  go_ret
  exact ⟨rfl, hb1⟩
end Go.Proofs.YtoojofakgjmagaaDoor.Tx
