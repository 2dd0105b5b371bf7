/-
  The walks up to the statement FnExactFixNL: impl.FixNL hands back the text with a newline at its end (texts of at most 2^32 bytes), and the law answers true, at every string.
-/
import Derived.Test.YtkhidiajjefciaaTxA
namespace Go.Proofs.Ytkhidiajjefciaa.Tx
open Go Go.RowKit

theorem fixNL_exp (A : Option Addr) (n cap : Nat) (l : Bs) (w : World) (hn : Hid (n = l.length)) (hb : n ≤ 8589934592) (hcap : n ≤ cap) (hr : RB w A l) :
    Calls Try.prog 6 #[.slice A n cap] w fun e w' => ∃ A' n' cap', e = .returned (.slice A' n' cap') ∧ Hid (n' = (ended l).length) ∧ n' ≤ cap' ∧ RB w' A' (ended l) ∧ (A ≠ none → A' ≠ none) ∧ Below w.heap.size w w' := by
  have hc := Lib.hid (fixNL_any A n cap l w hn hb hcap hr)
  go_enter Try.func6, Try.ntmps6
  go_wp2_with fail
  refine hc.out.mono ?_
  rintro e w1 ⟨A', n', cap', rfl, h1, h2, h3, h4, h5⟩
  go_wp2
  go_ret
  exact ⟨A', n', cap', rfl, h1, h2, h3, h4, h5⟩

/-- the world behind '[]byte(s)' -/
theorem below_bytes (w : World) (o : Obj) : Below w.heap.size w (w.alloc o).drew := ((Below.refl _ w).alloc (Nat.le_refl _) o).drew

set_option maxRecDepth 100000 in
theorem implFix_any (s : ByteArray) (w : World) (hs : s.size ≤ 4294967296) : Calls Try.prog 4 #[.string s] w fun e w' => e = .returned (.string (endedS s)) ∧ Below w.heap.size w w' := by
  have hcv := fun (u : World) => run_bytes_of_string (P := Try.prog) u 9 24 5 s Try.underlying9 Try.underlying24 Try.underlying5
  go_enter Try.func4, Try.ntmps4
  go_wp2_with fail
  refine (fixNL_exp _ _ _ s.data.toList _ (size_list s).symm (by omega) (grownCap_ge _ _ _ _) (RB.of_string w 5 s _ _)).mono ?_
  rintro e w1 ⟨A', n', cap', rfl, h1, h2, h3, h4, h5⟩
  have hst := h3.strN (P := Try.prog) h1 24 5 9 Try.underlying24 Try.underlying5 Try.underlying9 cap'
  clear hcv
  go_wp2
  go_ret
  exact ⟨rfl, (below_bytes w _).trans (h5.mono (by simp))⟩

theorem ended_a : endedS ⟨#[97]⟩ = ⟨#[97, 10]⟩ := by
  apply ba_eq
  rw [endedS_list]
  decide

set_option maxRecDepth 100000 in
theorem law_walk (s : ByteArray) (w : World) : Calls Try.prog 3 #[.string s] w fun e w' => e = .returned (.bool true) ∧ Below w.heap.size w w' := by
  by_cases hs : (2147483647 : Int) < (s.size : Int)
  · go_enter Try.func3, Try.ntmps3
    go_wp2
    go_ret
    exact ⟨rfl, Below.refl _ _⟩
  · have ha := Lib.hid ended_a
    go_enter Try.func3, Try.ntmps3
    go_wp2_with fail
    refine (implFix_any s w (by omega)).mono ?_
    rintro e w1 ⟨rfl, hb1⟩
    go_wp2_with fail
    refine (ended_any s w1 (by omega)).mono ?_
    rintro e w2 ⟨rfl, rfl⟩
    go_wp2_with fail
    refine (implFix_any _ w1 (by decide)).mono ?_
    rw [ha.out]
    rintro e w2 ⟨rfl, hb2⟩
    go_wp2
    go_ret
    exact ⟨rfl, hb1.trans (hb2.mono hb1.size)⟩
end Go.Proofs.Ytkhidiajjefciaa.Tx
