/-
  The walks of the package's IsMarker and FindFileMarker, and of impl's: what they hand back, in the plain layer's words. Conditions: texts of at most 2^34 bytes; the library's four tables as their initialisers lay them.
-/
import Derived.Test.YtmogecodjiofeaaDoorTxD
import Derived.BigQuiet
namespace Go.Proofs.YtmogecodjiofeaaDoor.Tx
open Go Go.RowKit

theorem isMarker_exp (A : Option Addr) (n cap : Nat) (l : Bs) (w : World) (h1 : BS False 5 w A n cap l) (hn : n ≤ 68719476736) (hT : Tabs w) :
    Calls Tryd.prog 25 #[.slice A n cap] w fun e w' => ∃ A' n' cap' l' s, e = .returned (.tuple #[.string s, .slice A' n' cap']) ∧ BS False 5 w' A' n' cap' l' ∧ Hid (s = S (headName l)) ∧ Hid (headName l ≠ [] → l' = (cutNL l).2) ∧ n' ≤ n ∧ Below w.heap.size w w' := by
  obtain ⟨s, hs⟩ : ∃ s, s = S (headName l) := ⟨_, rfl⟩
  have hc := Lib.hid (isMarker_any A n cap l w h1 hn hT)
  have HS := Lib.hid hs
  clear hs
  go_enter Tryd.func25, Tryd.ntmps25
  go_wp2_with fail
  refine hc.out.mono ?_
  rw [← HS.out]
  rintro e w1 ⟨A', n', cap', l', rfl, h1, h2, h3, h4⟩
  go_wp2
  go_ret2
  exact ⟨A', n', cap', l', s, rfl, h1, HS, h2, h3, h4⟩
theorem below_str (w : World) (o : Obj) : Below w.heap.size w (w.alloc o).drew := ((Below.refl _ w).alloc (Nat.le_refl _) o).drew
set_option maxHeartbeats 800000 in
set_option maxRecDepth 100000 in
theorem implIsMarker_any (t : ByteArray) (w : World) (hl : t.size ≤ 17179869184) (hT : Tabs w) :
    Calls Tryd.prog 19 #[.string t] w fun e w' => ∃ s r, e = .returned (.tuple #[.string s, .string r]) ∧ Hid (s.data.toList = headName t.data.toList) ∧ Hid (headName t.data.toList ≠ [] → r.data.toList = (cutNL t.data.toList).2) ∧ Below w.heap.size w w' := by
  have hcv := fun (u : World) => run_bytes_of_string (P := Tryd.prog) u 9 42 5 t Tryd.underlying9 Tryd.underlying42 Tryd.underlying5
  go_enter Tryd.func19, Tryd.ntmps19
  go_wp2_with fail
  refine (isMarker_exp _ _ _ t.data.toList _ (by exact (BS.of_string w 5 t _ (grownCap_ge _ _ _ _) _).free) (by omega) (by exact hT.below (below_str w _))).mono ?_
  rintro e w1 ⟨A', n', cap', l', s, rfl, h1, h2, h3, h4, h5⟩
  have hst := fun nq => (h1.below (below_drewN (Below.refl _ w1) nq)).rb.strN (P := Tryd.prog) h1.len 42 5 9 Tryd.underlying42 Tryd.underlying5 Tryd.underlying9 cap'
  clear hcv
  go_wp2_with fail
  go_quiet (fail)
  go_wp2
  go_ret2
  exact ⟨s, S l', rfl, by rw [h2.out]; exact S_data _, fun h => by rw [S_data]; exact h3.out h, below_drewN ((below_str w _).trans (h5.mono (by simp))) _⟩
theorem find_exp (A : Option Addr) (n cap : Nat) (l : Bs) (w : World) (h1 : BS False 5 w A n cap l) (hn : n ≤ 68719476736) (hT : Tabs w) :
    Calls Tryd.prog 26 #[.slice A n cap] w fun e w' => ∃ A1 n1 c1 A2 n2 c2 s, e = .returned (.tuple #[.slice A1 n1 c1, .string s, .slice A2 n2 c2]) ∧
      BS False 5 w' A1 n1 c1 (find nm l).1 ∧ BS False 5 w' A2 n2 c2 (find nm l).2.2 ∧ Hid (s = S (find nm l).2.1) ∧ n1 ≤ n + 1 ∧ n2 ≤ n ∧ Below w.heap.size w w' := by
  have hc := Lib.hid (find_any A n cap l w h1 hn hT)
  go_enter Tryd.func26, Tryd.ntmps26
  go_wp2_with fail
  refine hc.out.mono ?_
  rintro e w1 ⟨A1, n1, c1, A2, n2, c2, s, rfl, g1, g2, g3, g4, g5, g6⟩
  go_wp2
  go_ret3
  exact ⟨A1, n1, c1, A2, n2, c2, s, rfl, g1, g2, g3, g4, g5, g6⟩
set_option maxHeartbeats 800000 in
set_option maxRecDepth 100000 in
theorem implFind_any (t : ByteArray) (w : World) (hl : t.size ≤ 17179869184) (hT : Tabs w) :
    Calls Tryd.prog 20 #[.string t] w fun e w' => ∃ a s b, e = .returned (.tuple #[.string a, .string s, .string b]) ∧ Hid (a.data.toList = (find nm t.data.toList).1) ∧ Hid (s.data.toList = (find nm t.data.toList).2.1) ∧
      Hid (b.data.toList = (find nm t.data.toList).2.2) ∧ a.size ≤ t.size + 1 ∧ b.size ≤ t.size ∧ Below w.heap.size w w' := by
  have hcv := fun (u : World) => run_bytes_of_string (P := Tryd.prog) u 9 42 5 t Tryd.underlying9 Tryd.underlying42 Tryd.underlying5
  obtain ⟨l1, hl1⟩ : ∃ x, x = (find nm t.data.toList).1 := ⟨_, rfl⟩
  obtain ⟨l2, hl2⟩ : ∃ x, x = (find nm t.data.toList).2.2 := ⟨_, rfl⟩
  have H1 := Lib.hid hl1
  have H2 := Lib.hid hl2
  clear hl1 hl2
  go_enter Tryd.func20, Tryd.ntmps20
  go_wp2_with fail
  refine (find_exp _ _ _ t.data.toList _ (by exact (BS.of_string w 5 t _ (grownCap_ge _ _ _ _) _).free) (by omega) (by exact hT.below (below_str w _))).mono ?_
  rw [← H1.out, ← H2.out]
  rintro e w1 ⟨A1, n1, c1, A2, n2, c2, s, rfl, g1, g2, g3, g4, g5, g6⟩
  have hst1 := fun nq => (g1.below (below_drewN (Below.refl _ w1) nq)).rb.strN (P := Tryd.prog) g1.len 42 5 9 Tryd.underlying42 Tryd.underlying5 Tryd.underlying9 c1
  have hst2 := fun nq => (g2.below (below_drewN (Below.refl _ w1) nq)).rb.strN (P := Tryd.prog) g2.len 42 5 9 Tryd.underlying42 Tryd.underlying5 Tryd.underlying9 c2
  clear hcv
  go_wp2_with fail
  go_quiet (fail)
  go_wp2
  go_ret3
  exact ⟨S l1, s, S l2, rfl, by rw [S_data]; exact H1.out, by rw [g3.out]; exact S_data _, by rw [S_data]; exact H2.out, by rw [S_size, ← g1.len.out]; exact g4, by rw [S_size, ← g2.len.out]; exact g5, below_drewN ((below_str w _).trans (g6.mono (by simp))) _⟩
end Go.Proofs.YtmogecodjiofeaaDoor.Tx
