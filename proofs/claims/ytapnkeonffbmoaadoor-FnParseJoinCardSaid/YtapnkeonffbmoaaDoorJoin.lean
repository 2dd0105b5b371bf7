/-
  What the walks of the two statements that join archives share: the joined archive's variable, at the end of its region. No program in sight.
-/
import Derived.Test.YtapnkeonffbmoaaDoorCat
namespace Go.Proofs.YtapnkeonffbmoaaDoor.Tx
open Go Go.RowKit

/-- what the joined archive's variable holds -/
def JoinCut (B : Nat) (w3 : World) (c : ByteArray) (N : Nat) (fs : List (Bs × Bs)) (s5 : Value) (wx : World) : Prop :=
  ∃ (g : Nat) (F : Option Addr) (fc : Nat), s5 = .pointer (some ⟨g, 0, none⟩) ∧ wx.cell? ⟨g, 0, none⟩ = some (.string c) ∧ wx.cell? ⟨g, 1, none⟩ = some (.slice F N fc) ∧ FArgs wx F N fc fs ∧ g < wx.heap.size ∧ Below B w3 wx
theorem fargs_own {w : World} {base : Nat} {e : TypeId} {F : Option Addr} {N fc : Nat} {fs : List (Bs × Bs)} (h : w.ownsRow base e 2 (.slice F N fc) N (fileCells fs)) : FArgs w F N fc fs := by
  obtain ⟨A, cap, he, hc, hr⟩ := Row.of_own h
  cases he
  have h1 := h.1
  rw [fileCells_length] at h1
  exact ⟨Lib.hid (by omega), hc, hr⟩
theorem join_end1 {B : Nat} {w3 W : World} {c : ByteArray} {N g fc : Nat} {F : Option Addr} {fs : List (Bs × Bs)} {u0 u1 : Value} {e T : TypeId} (hz : W.heap[g]? = some (.cells #[u0, u1] T (0, 0))) (hT : T ≠ e) (hb : Below B w3 W) (hg : B ≤ g) (hown : W.ownsRow B e 2 (.slice F N fc) N (fileCells fs)) :
    JoinCut B w3 c N fs (.pointer (some ⟨g, 0, none⟩)) ((W.setCell ⟨g, 0, none⟩ (.string c)).setCell ⟨g, 1, none⟩ (.slice F N fc)) := by
  have hne := own_ne hown hz hT
  have h9 := ownsRow_setCell_other (a := ⟨g, 1, none⟩) (ownsRow_setCell_other (a := ⟨g, 0, none⟩) hown hne.symm (.string c)) hne.symm (.slice F N fc)
  have hR : ((W.setCell ⟨g, 0, none⟩ (.string c)).setCell ⟨g, 1, none⟩ (.slice F N fc)).heap[g]? = some (.cells #[.string c, .slice F N fc] T (0, 0)) := by
    simp [World.setCell, Array.getElem?_modify, hz]
  exact ⟨g, F, fc, rfl, by rw [Lib.cell_of_heap hR]; rfl, by rw [Lib.cell_of_heap hR]; rfl, fargs_own h9, Lib.lt_of_heap hR, (hb.setCell (p := ⟨g, 0, none⟩) hg _).setCell (p := ⟨g, 1, none⟩) hg _⟩
theorem join_end2 {B : Nat} {w3 W : World} {c : ByteArray} {N fc : Nat} {F : Option Addr} {fs : List (Bs × Bs)} {e T : TypeId} (hb : Below B w3 W) (hB : B ≤ W.heap.size) (hown : W.ownsRow B e 2 (.slice F N fc) N (fileCells fs)) :
    JoinCut B w3 c N fs (.pointer (some ⟨W.heap.size, 0, none⟩)) (W.alloc (.cells #[.string c, .slice F N fc] T)) := by
  have hR := heap_alloc_new W (.cells #[.string c, .slice F N fc] T)
  exact ⟨W.heap.size, F, fc, rfl, by rw [Lib.cell_of_heap hR]; rfl, by rw [Lib.cell_of_heap hR]; rfl, fargs_own (hown.alloc _), Lib.lt_of_heap hR, hb.alloc hB _⟩
theorem new_place {w : World} {g : Nat} {u0 u1 : Value} {T : TypeId} (h : w.heap[g]? = some (.cells #[u0, u1] T (0, 0))) : w.cell? ⟨g, 0, none⟩ = some u0 ∧ w.cell? ⟨g, 1, none⟩ = some u1 ∧ w.frozen? ⟨g, 0, none⟩ = false ∧ w.frozen? ⟨g, 1, none⟩ = false :=
  ⟨by rw [Lib.cell_of_heap h]; rfl, by rw [Lib.cell_of_heap h]; rfl, by simp [World.frozen?, h], by simp [World.frozen?, h]⟩

theorem fargs_file {w : World} {g : Nat} {x y : ByteArray} {T : TypeId} {fr : Nat × Nat} (hg : w.heap[g]? = some (.cells #[.string x, .string y] T fr)) : FArgs w (some ⟨g, 0, none⟩) 1 1 [(x.data.toList, y.data.toList)] := by
  refine ⟨rfl, Nat.le_refl _, fun _ => ⟨g, 0, rfl, Lib.lt_of_heap hg, fun i v hi => ?_⟩⟩
  rw [Lib.cell_of_heap hg]
  match i, hi with
  | 0, hi => simp [fileCells] at hi; subst hi; simp [S_of]
  | 1, hi => simp [fileCells] at hi; subst hi; simp [S_of]
theorem other_block {w' W : World} {g n c : Nat} (hoth : ∀ j, j < W.heap.size → some j ≠ (Value.slice (some ⟨g, 0, none⟩) n c).ownBlock → w'.heap[j]? = W.heap[j]?) {j : Nat} {o : Obj} (hj : W.heap[j]? = some o) (hne : j ≠ g) : w'.heap[j]? = some o := by
  rw [hoth j (Lib.lt_of_heap hj) (by simpa [Value.ownBlock] using hne)]
  exact hj
theorem first_of_three {W w : World} {a b c : Obj} (h : W.heap = (((w.alloc a).alloc b).alloc c).heap) : W.heap[w.heap.size]? = some a := by
  rw [h, Below.heap_alloc _ _ _ (by simp; omega)]
  exact first_of_two rfl
/-- the two texts with a marker line between -/
def joinText (a n b : ByteArray) : ByteArray := a ++ (⟨#[45, 45, 32]⟩ : ByteArray) ++ n ++ (⟨#[32, 45, 45, 10]⟩ : ByteArray) ++ b
theorem joinText_list (a n b : ByteArray) : (joinText a n b).data.toList = a.data.toList ++ mkLine n.data.toList ++ b.data.toList := by
  simp [joinText, mkLine, pre, suf]
theorem joinText_size (a n b : ByteArray) : (joinText a n b).size = 7 + a.size + n.size + b.size := by
  have q1 : (⟨#[45, 45, 32]⟩ : ByteArray).size = 3 := rfl
  have q2 : (⟨#[32, 45, 45, 10]⟩ : ByteArray).size = 4 := rfl
  unfold joinText
  simp only [ByteArray.size_append, q1, q2]
  omega
end Go.Proofs.YtapnkeonffbmoaaDoor.Tx
