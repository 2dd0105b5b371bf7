/-
  One append of one element of two cells, as a step of a region that draws its order: what the walks of impl.of, Parse, Closed share. No program in sight; the conditions are the law's own.
-/
import Derived.Test.YtmogecodjiofeaaDoorFiles
import Derived.Deep.AppendLies
import Derived.Deep.RegionLaw
namespace Go.Proofs.YtmogecodjiofeaaDoor.Tx
open Go Go.RowKit

theorem owns_heap {w w' : World} {base : Nat} {e : TypeId} {size : Nat} {v : Value} {n : Nat} {xs : List Value} (h : w.ownsRow base e size v n xs) (hh : w'.heap = w.heap) : w'.ownsRow base e size v n xs := by
  unfold World.ownsRow at h ⊢
  rw [hh]
  exact h
theorem third_block {W w : World} {a b c : Obj} (h : W.heap = (((w.alloc a).alloc b).alloc c).heap) : W.heap[w.heap.size + 1 + 1]? = some c := by
  rw [h]
  have := heap_alloc_new ((w.alloc a).alloc b) c
  simpa using this
theorem second_block {W w : World} {a b : Obj} (h : W.heap = ((w.alloc a).alloc b).heap) : W.heap[w.heap.size + 1]? = some b := by
  rw [h]
  have := heap_alloc_new (w.alloc a) b
  simpa using this
theorem mid_block {W w : World} {a b c : Obj} (h : W.heap = (((w.alloc a).alloc b).alloc c).heap) : W.heap[w.heap.size + 1]? = some b := by
  rw [h, Below.heap_alloc _ _ _ (by simp)]
  exact second_block rfl
/-- a block that '[]byte(s)' has laid -/
theorem BS.of_block {w : World} {e : TypeId} {g : Nat} {s : ByteArray} {ct : Nat} {fr : Nat × Nat} (hg : w.heap[g]? = some (.cells (bytesRow s ct) e fr)) (hct : s.size ≤ ct) : BS True e w (some ⟨g, 0, none⟩) s.size ct s.data.toList := by
  refine ⟨(size_list s).symm, hct, fun _ => Option.some_ne_none _, HeldO.of_block hg, RB.of_new hg fun i x hi => ?_⟩
  have hlt : i < s.data.size := by
    have := (List.getElem?_eq_some_iff.1 hi).1
    simpa using this
  rw [bytesRow_at s ct i hlt]
  have h2 := (List.getElem?_eq_some_iff.1 hi).2
  have : s.data[i] = x := by simpa using h2
  rw [this]
theorem old_block {W w : World} {a b c : Obj} (h : W.heap = (((w.alloc a).alloc b).alloc c).heap) {r : Nat} {x : Obj} (hx : w.heap[r]? = some x) : W.heap[r]? = some x := by
  have hr := Lib.lt_of_heap hx
  rw [h, Below.heap_alloc _ _ _ (by simp; omega), Below.heap_alloc _ _ _ (by simp; omega), Below.heap_alloc _ _ _ hr, hx]
theorem old_block2 {W w : World} {a b : Obj} (h : W.heap = ((w.alloc a).alloc b).heap) {r : Nat} {x : Obj} (hx : w.heap[r]? = some x) : W.heap[r]? = some x := by
  have hr := Lib.lt_of_heap hx
  rw [h, Below.heap_alloc _ _ _ (by simp; omega), Below.heap_alloc _ _ _ hr, hx]
/-- a block of another element type is not the row's -/
theorem own_ne {w : World} {base : Nat} {e T : TypeId} {size : Nat} {v : Value} {n : Nat} {xs : List Value} (h : w.ownsRow base e size v n xs) {r : Nat} {cs : Array Value} {fz : Nat × Nat} (hr : w.heap[r]? = some (.cells cs T fz)) (hne : T ≠ e) : some r ≠ v.ownBlock := by
  rcases h.2 with ⟨rfl, _⟩ | ⟨g, cap, cur, rfl, _, hg, _⟩
  · simp [Value.ownBlock]
  · intro he
    have : r = g := by simpa [Value.ownBlock] using he
    subst this
    rw [hr] at hg
    simp at hg
    exact hne hg.2.1

theorem cell_two {w : World} {a : Addr} {v : Value} (h : w.cell? a = some v) (o1 o2 : Obj) : ((w.alloc o1).alloc o2).cell? a = some v := Lib.cell?_alloc_marked o2 (Lib.cell?_alloc_marked o1 h)
theorem cell_three {w : World} {a : Addr} {v : Value} (h : w.cell? a = some v) (o1 o2 o3 : Obj) : (((w.alloc o1).alloc o2).alloc o3).cell? a = some v := Lib.cell?_alloc_marked o3 (cell_two h o1 o2)
theorem cell_new0 (w : World) (x y : Value) (t : TypeId) (o2 : Obj) : ((w.alloc (.cells #[x, y] t)).alloc o2).cell? ⟨w.heap.size, 0, none⟩ = some x := by
  refine Lib.cell?_alloc_marked o2 ?_
  rw [Lib.cell_of_heap (heap_alloc_new w _)]
  rfl
theorem cell_new1 (w : World) (x y : Value) (t : TypeId) (o2 : Obj) : ((w.alloc (.cells #[x, y] t)).alloc o2).cell? ⟨w.heap.size, 1, none⟩ = some y := by
  refine Lib.cell?_alloc_marked o2 ?_
  rw [Lib.cell_of_heap (heap_alloc_new w _)]
  rfl
theorem step_push {P : Program} {W : World} {ops : Array Oper} {o : Oper} {a : Act} {K : Act → World → Prop} {Q : Exit → Act → World → Prop} {E : Prop} (hgd : o.guard = none) (s x : Operand) (t : TypeId)
    (ho : o.op = .call { callee := .builtin .append, args := #[s, x], argTypes := #[t, t] })
    (base : Nat) (e : TypeId) (i : TypeInfo) (z : Value) (bytes : Nat) (ht : P.underlying t = some (.slice e)) (hi : P.info? e = some i) (hz : i.zero = some z)
    (hsize : i.size = 2) (hby : i.bytes = bytes) (hzs : z.cells.size = 2)
    (v : Value) (n : Nat) (xs : List Value) (hs : a.eval s = v) (hown : W.ownsRow base e 2 v n xs)
    (B c : Nat) (hx : a.eval x = .slice (some ⟨B, 0, none⟩) 1 c) (u1 u2 : Value) (tt : TypeId) (fr : Nat × Nat) (hblk : W.heap[B]? = some (.cells #[u1, u2] tt fr)) (h1 : u1.oneCell' = true ∧ u2.oneCell' = true)
    (h63 : n + 1 ≤ maxLen) (hbytes : (n + 1) * bytes ≤ 140737488355328) (hbase : base ≤ W.heap.size)
    (R : Nat) (cs : Array Value) (T : TypeId) (hR : W.heap[R]? = some (.cells cs T (0, 0))) (hT : T ≠ e) (old : Value) (hold : cs[1]? = some old)
    (h : ∀ g cap w', w'.ownsRow base e 2 (.slice (some ⟨g, 0, none⟩) (n + 1) cap) (n + 1) (xs ++ [u1, u2]) → W.grownBy w' v.ownBlock → w'.heap[R]? = some (.cells cs T (0, 0)) →
      w'.cell? ⟨R, 1, none⟩ = some old → w'.frozen? ⟨R, 1, none⟩ = false → K (a.put o.dst (.slice (some ⟨g, 0, none⟩) (n + 1) cap)) w') :
    if Region.wanted o (yielded ops a.tmps) = true then Oper.wp P o a W K Q else E := by
  refine step_append_lies W hgd s x t ho base e i z 2 bytes ht hi hz hsize hby hzs (by decide) v n xs hs hown ⟨B, 0, none⟩ 1 c [u1, u2] hx rfl (World.news_of_block hblk) ?_ (by decide) h63 hbytes hbase _ rfl ?_
  · intro u hu
    simp at hu
    rcases hu with rfl | rfl
    · exact h1.1
    · exact h1.2
  · intro g cap w' hown' hgrow _ _
    have hR' : w'.heap[R]? = some (.cells cs T (0, 0)) := (hgrow.block R (Lib.lt_of_heap hR) (own_ne hown hR hT)).trans hR
    refine h g cap w' hown' hgrow hR' ?_ ?_
    · rw [Lib.cell_of_heap hR']; exact hold
    · simp [World.frozen?, hR']
end Go.Proofs.YtmogecodjiofeaaDoor.Tx
