/-
  An argument that is an archive of strings, or a list of files, opened: comment, and files in a row; how much they hold together, by the reading's bulk. No walk here. Condition: the argument reads.
-/
import Derived.Test.YtoojofakgjmagaaDoorRows
import Derived.Test.YtoojofakgjmagaaDoorImpF
import Derived.Deep.SlicePairs
import Derived.Lib.SmallJoins
import Derived.WideKeyArgs
import Derived.ChangeMaps5
namespace Go.Proofs.YtoojofakgjmagaaDoor.Tx
open Go Go.RowKit Go.ChangeShapes Go.WideShapes

def sumOf (fs : List (Bs × Bs)) : Nat := (fs.map fun f => f.1.length + f.2.length + 3).sum
theorem sumOf_mem : ∀ {fs : List (Bs × Bs)} {f : Bs × Bs}, f ∈ fs → f.1.length + f.2.length + 3 ≤ sumOf fs
  | g :: r, f, h => by
    unfold sumOf
    rw [List.map_cons, List.sum_cons]
    rcases List.mem_cons.1 h with rfl | h
    · omega
    · have := sumOf_mem h
      unfold sumOf at this
      omega
theorem sumOf_len : ∀ fs : List (Bs × Bs), fs.length * 3 ≤ sumOf fs
  | [] => by simp [sumOf]
  | g :: r => by
    have := sumOf_len r
    unfold sumOf at this ⊢
    simp only [List.map_cons, List.sum_cons, List.length_cons]
    omega
theorem sumOf_append (a b : List (Bs × Bs)) : sumOf (a ++ b) = sumOf a + sumOf b := by simp [sumOf]
theorem format_sum (c : Bs) (fs : List (Bs × Bs)) : (format (c, fs)).length ≤ c.length + 1 + sumOf fs * 3 := by
  have h := format_length_le (c, fs)
  have h2 : (fs.map fun f => f.1.length + f.2.length + 8).sum ≤ sumOf fs * 3 := by
    unfold sumOf
    generalize fs = gs
    induction gs with
    | nil => simp
    | cons f r ih => simp only [List.map_cons, List.sum_cons]; omega
  simp only at h
  omega
/-- small archives can be written -/
theorem fit_small {c : Bs} {fs : List (Bs × Bs)} (h : c.length + sumOf fs ≤ 4194304) : Fit64 c fs := by
  have h1 := sumOf_len fs
  have h2 := format_sum c fs
  exact ⟨by omega, fun f hf => by have := sumOf_mem hf; omega, by omega, by omega⟩

/-- the letters of a string value -/
def strOf : Value → Bs
  | .string s => s.data.toList
  | _ => []
section
variable {H : Type} {enc : TypeId × Value → H}

theorem bulk_all_map (g : Nat → Bs × Bs) : ∀ (n : Nat), Rows.uptoBulkAll ((List.range n).map fun i => (DataW.agg [.lit (.string (g i).1), .lit (.string (g i).2)] : DataW H)) = sumOf ((List.range n).map g)
  | 0 => by simp [Rows.uptoBulkAll, sumOf]
  | n + 1 => by
    have app : ∀ (l r : List (DataW H)), Rows.uptoBulkAll (l ++ r) = Rows.uptoBulkAll l + Rows.uptoBulkAll r := by
      intro l r
      induction l with
      | nil => simp [Rows.uptoBulkAll]
      | cons x l ih => simp only [List.cons_append, Rows.uptoBulkAll, ih]; omega
    rw [List.range_succ, List.map_append, List.map_append, app, sumOf_append, bulk_all_map g n]
    congr 1
    simp [Rows.uptoBulkAll, Rows.uptoBulk, sumOf]
    omega

theorem open_files {W : World} {fuel : Nat} {v : Value} {y : DataW H × List MemPlace} (h : DataW.trod enc Tryd.prog W 0 (fun _ => true) true fuel 22 [v] = some y) :
    ∃ (A : Option Addr) (n cap : Nat) (fs : List (Bs × Bs)), v = .slice A n cap ∧ FArgs W A n cap fs ∧ sumOf fs ≤ Rows.uptoBulk y.1 := by
  rcases Deep.open_slice_pairs Tryd.underlying22 Tryd.underlying36 (by kernel_rfl) rfl rfl (by kernel_rfl) (by kernel_rfl) h with ⟨hv, -⟩ | ⟨a, len, cap, m, n, V0, V1, D0, D1, P0, P1, hv, -, hlc, -, hm, hy, hc⟩
  · simp at hv
    exact ⟨none, 0, 0, [], hv, FArgs.nil_ W, by simp [sumOf]⟩
  · simp at hv
    have hml : len ≤ m := by rw [hm]; exact hlc
    have hs : ∀ i, i < len → ∃ s t : ByteArray, V0 i = .string s ∧ V1 i = .string t ∧ D0 i = .lit (.string s.data.toList) ∧ D1 i = .lit (.string t.data.toList) := by
      intro i hi
      obtain ⟨-, -, h0, h1⟩ := hc i (by omega)
      obtain ⟨s, hs, hx, -⟩ := DataW.trod_string Tryd.underlying9 h0
      obtain ⟨t, ht, hx', -⟩ := DataW.trod_string Tryd.underlying9 h1
      simp at hs ht hx hx'
      exact ⟨s, t, hs, ht, hx.1, hx'.1⟩
    let g : Nat → Bs × Bs := fun i => (strOf (V0 i), strOf (V1 i))
    have hg : ∀ i, i < len → V0 i = .string (S (g i).1) ∧ V1 i = .string (S (g i).2) ∧ D0 i = .lit (.string (g i).1) ∧ D1 i = .lit (.string (g i).2) := by
      intro i hi
      obtain ⟨s, t, e0, e1, e2, e3⟩ := hs i hi
      simp only [g, e0, e1, e2, e3, strOf, S_of]
      exact ⟨trivial, trivial, trivial, trivial⟩
    refine ⟨some a, len, cap, (List.range len).map g, hv, ⟨Lib.hid (by simp), hlc, fun hne => ?_⟩, ?_⟩
    · have hlen : 0 < len := by
        rcases Nat.eq_zero_or_pos len with h0 | h0
        · subst h0; simp [fileCells] at hne
        · exact h0
      obtain ⟨b, off, spot⟩ := a
      have hc0 := (hc 0 (by omega)).1
      have hspot : spot = none := by simpa [Addr.add] using World.cell?_spot hc0
      subst hspot
      refine ⟨b, off, rfl, ?_, fun i v hi => ?_⟩
      · rw [WideShapes.add_plain] at hc0
        have hlt : b < W.heap.size := by
          rcases Nat.lt_or_ge b W.heap.size with h' | h'
          · exact h'
          · simp [World.cell?, Array.getElem?_eq_none h'] at hc0
        exact hlt
      · have hil : i < (fileCells ((List.range len).map g)).length := by
          rcases Nat.lt_or_ge i (fileCells ((List.range len).map g)).length with h' | h'
          · exact h'
          · rw [List.getElem?_eq_none h'] at hi; cases hi
        rw [fileCells_length] at hil
        simp at hil
        obtain ⟨k, hk⟩ : ∃ k, i = k * 2 ∨ i = k * 2 + 1 := ⟨i / 2, by omega⟩
        have hkl : k < len := by omega
        obtain ⟨f0, f1⟩ := fileCells_at ((List.range len).map g) k (by simpa using hkl)
        simp only [List.getElem_map, List.getElem_range] at f0 f1
        obtain ⟨c0, c1, -, -⟩ := hc k (by omega)
        obtain ⟨e0, e1, -, -⟩ := hg k hkl
        rw [WideShapes.add_plain] at c0 c1
        rcases hk with rfl | rfl
        · rw [f0] at hi
          cases hi
          rw [← e0]
          exact c0
        · rw [f1] at hi
          cases hi
          rw [← e1]
          exact c1
    · rw [hy]
      have e : ((List.range len).map fun i => (DataW.agg [D0 i, D1 i] : DataW H)) = (List.range len).map fun i => .agg [.lit (.string (g i).1), .lit (.string (g i).2)] :=
        List.map_congr_left fun i hi => by
          obtain ⟨-, -, e2, e3⟩ := hg i (List.mem_range.1 hi)
          rw [e2, e3]
      simp only [e, Rows.uptoBulk]
      rw [bulk_all_map g len]
      omega
set_option maxRecDepth 100000 in
theorem open_filesArg {W : World} {base : Nat} {v : Value} {d : DataW H} {p : List MemPlace} (hv : Value.okWide Tryd.prog W .any base 22 v) (h : DataW.Trod enc Tryd.prog W 0 (fun _ => true) true 22 v d p) :
    ∃ (A : Option Addr) (n cap : Nat) (fs : List (Bs × Bs)), v = .slice A n cap ∧ FArgs W A n cap fs ∧ sumOf fs ≤ Rows.uptoBulk d := by
  obtain ⟨fuel, hf⟩ := h
  obtain ⟨A, n, cap, e⟩ := okWide_slice Tryd.underlying22 hv
  subst e
  obtain ⟨A', n', cap', fs, e, h1, h2⟩ := open_files (y := (d, p)) (by simpa [Value.cells] using hf)
  cases e
  exact ⟨A, n, cap, fs, rfl, h1, h2⟩
set_option maxRecDepth 100000 in
theorem open_arch {W : World} {base : Nat} {v : Value} {d : DataW H} {p : List MemPlace} (hv : Value.okWide Tryd.prog W .any base 24 v) (h : DataW.Trod enc Tryd.prog W 0 (fun _ => true) true 24 v d p) :
    ∃ (c : ByteArray) (A : Option Addr) (n cap : Nat) (fs : List (Bs × Bs)), v = .agg #[.string c, .slice A n cap] ∧ FArgs W A n cap fs ∧ c.data.toList.length + sumOf fs ≤ Rows.uptoBulk d := by
  obtain ⟨v0, v1, y0, y1, n, rfl, rfl, -, h0, h1⟩ := Joins.open_agg2 Tryd.underlying24 (by kernel_rfl) (by kernel_rfl) hv h
  obtain ⟨s, hs, hx, -⟩ := DataW.trod_string Tryd.underlying9 h0
  obtain ⟨A, m, cap, fs, rfl, hF, hb⟩ := open_files h1
  simp at hs
  refine ⟨s, A, m, cap, fs, by rw [hs], hF, ?_⟩
  rw [hx]
  simp only [Rows.uptoBulk, Rows.uptoBulkAll]
  omega
end
end Go.Proofs.YtoojofakgjmagaaDoor.Tx
