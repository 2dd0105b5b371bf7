/-
  Memory, in plain words: blocks between two numbers stay as they were; Lines once more, its row named as one of blocks of its own. Condition: strings of at most 2^32 bytes.
-/
import Derived.Test.YtapnkeonffbmoaaDoorSpP
namespace Go.Proofs.YtapnkeonffbmoaaDoor.Tx
open Go Go.RowKit

/-- the blocks from a on and below b are as they were -/
def Far (a b : Nat) (w w' : World) : Prop := ∀ j, a ≤ j → j < b → w'.heap[j]? = w.heap[j]?
theorem Far.refl (a b : Nat) (w : World) : Far a b w w := fun _ _ _ => rfl
theorem Far.of_heap {a b : Nat} {w w1 w2 : World} (h : Far a b w w1) (hh : w2.heap = w1.heap) : Far a b w w2 := fun j h1 h2 => by rw [hh]; exact h j h1 h2
theorem Far.trans {a b : Nat} {w w1 w2 : World} (h : Far a b w w1) (h' : Far a b w1 w2) : Far a b w w2 := fun j h1 h2 => (h' j h1 h2).trans (h j h1 h2)
theorem Far.below {a b : Nat} {w w1 w2 : World} (h : Far a b w w1) (h' : Below b w1 w2) : Far a b w w2 := h.trans fun j _ h2 => h'.block j h2
theorem Far.alloc {a b : Nat} {w w1 : World} (h : Far a b w w1) (hb : b ≤ w1.heap.size) (o : Obj) : Far a b w (w1.alloc o) := h.trans fun j _ h2 => Below.heap_alloc _ _ _ (by omega)
theorem Far.setCell {a b : Nat} {w w1 : World} (h : Far a b w w1) {p : Addr} (hp : p.block < a ∨ b ≤ p.block) (v : Value) : Far a b w (w1.setCell p v) := h.trans fun j h1 h2 => Below.heap_setCell _ _ _ _ (by omega)
theorem Far.grown {a b : Nat} {w w1 w2 : World} {row : Option Nat} (h : Far a b w w1) (hg : w1.grownBy w2 row) (hb : b ≤ w1.heap.size) (hr : ∀ k, row = some k → b ≤ k) : Far a b w w2 :=
  h.trans fun j _ h2 => hg.block j (by omega) (fun e => by have := hr j e.symm; omega)
/-- a row of a call's own blocks stays a row while those blocks stay -/
theorem row_far {w : World} {base : Nat} {e : TypeId} {size : Nat} {v : Value} {n : Nat} {xs : List Value} (h : w.ownsRow base e size v n xs) :
    ∃ A cap, v = .slice A n cap ∧ n ≤ cap ∧ ∀ w', Far base w.heap.size w w' → w.heap.size ≤ w'.heap.size → Row w' A xs := by
  obtain ⟨hl, h⟩ := h
  rcases h with ⟨rfl, rfl⟩ | ⟨g, cap, cur, rfl, hb, hg, hn, _, hs, ht⟩
  · exact ⟨none, 0, rfl, Nat.le_refl _, fun w' _ _ hne => absurd (List.eq_nil_of_length_eq_zero (by simpa using hl)) hne⟩
  · refine ⟨some ⟨g, 0, none⟩, cap, rfl, hn, fun w' hf hsz _ => ?_⟩
    have hlt := Lib.lt_of_heap hg
    refine ⟨g, 0, rfl, by omega, fun i v hi => ?_⟩
    rw [← ht] at hi
    have := Lib.cells_of_row hg _ i v hi
    rw [add_plain] at this
    exact (World.cell?_of_block (a := ⟨g, 0 + i, none⟩) (hf g hb hlt)).trans this
theorem lines_far (s : ByteArray) (w : World) (hs : s.size ≤ 4294967296) (ls : List Bs) (h : Hid (ls = lines s.data.toList)) :
    Calls Tryd.prog 14 #[.string s] w fun e w' => ∃ A cap, e = .returned (.slice A ls.length cap) ∧ ls.length ≤ cap ∧ (∀ w2, Far w.heap.size w'.heap.size w' w2 → w'.heap.size ≤ w2.heap.size → Row w2 A (strCells ls)) ∧ Below w.heap.size w w' := by
  refine (lines_own s w hs).mono ?_
  rintro e w' ⟨v, rfl, ho, hb⟩
  rw [← h.out] at ho
  obtain ⟨A, cap, rfl, hc, hf⟩ := row_far ho
  exact ⟨A, cap, rfl, hc, hf, hb⟩
end Go.Proofs.YtapnkeonffbmoaaDoor.Tx
