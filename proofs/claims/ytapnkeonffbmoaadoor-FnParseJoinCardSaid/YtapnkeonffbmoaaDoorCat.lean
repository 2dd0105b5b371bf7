/-
  One append of a list of files (nil, empty or not) onto a row of the call's own, as a step of a region that draws its order. No program in sight; the conditions are the law's own.
-/
import Derived.Test.YtapnkeonffbmoaaDoorPush
import Derived.Test.YtapnkeonffbmoaaDoorFA
namespace Go.Proofs.YtapnkeonffbmoaaDoor.Tx
open Go Go.RowKit

theorem fileCells_one (gs : List (Bs × Bs)) : ∀ u ∈ fileCells gs, u.oneCell' = true := by
  intro u hu
  unfold fileCells at hu
  obtain ⟨f, -, h⟩ := List.mem_flatMap.1 hu
  simp at h
  rcases h with rfl | rfl <;> rfl
theorem run_cat {P : Program} {W : World} (t ty : TypeId) (base : Nat) (e : TypeId) (i : TypeInfo) (z : Value) (bytes : Nat) (ht : P.underlying t = some (.slice e)) (hi : P.info? e = some i) (hz : i.zero = some z)
    (hsize : i.size = 2) (hby : i.bytes = bytes) (hzs : z.cells.size = 2) (v : Value) (n : Nat) (xs : List Value) (hown : W.ownsRow base e 2 v n xs) {A : Option Addr} {m c : Nat} {gs : List (Bs × Bs)} (ha : FArgs W A m c gs)
    (h63 : n + m ≤ maxLen) (hbytes : (n + m) * bytes ≤ 140737488355328) (hbase : base ≤ W.heap.size) :
    ∃ F fc w', (Builtin.append_ #[t, t] ty #[v, .slice A m c]).run P W = .ok (.slice F (n + m) fc) w' ∧ w'.ownsRow base e 2 (.slice F (n + m) fc) (n + m) (xs ++ fileCells gs) ∧ W.grownBy w' v.ownBlock := by
  have hm := ha.1.out
  have hl : (fileCells gs).length = m * 2 := by rw [fileCells_length, hm]
  cases A with
  | none =>
    have h0 : gs = [] := Classical.byContradiction fun hne => by
      have h1 : fileCells gs ≠ [] := fun h => hne (List.eq_nil_of_length_eq_zero (by rw [h] at hl; simp at hl; omega))
      obtain ⟨b, o, he, -⟩ := ha.2.2 h1
      cases he
    subst h0
    obtain rfl : m = 0 := hm
    obtain ⟨F, fc, rfl, hfc, -⟩ := Row.of_own hown
    refine ⟨F, fc, W, ?_, by simpa [fileCells] using hown, ⟨rfl, rfl, rfl, Nat.le_refl _, fun _ _ _ => rfl⟩⟩
    rcases hown.2 with ⟨he, -⟩ | ⟨g, cap, cur, he, -, -, hnc, -⟩
    · simp at he
      obtain ⟨rfl, rfl, rfl⟩ := he
      simp [Builtin.append_, run_underlying ht, sizeOf, typeInfo, hi, Builtin.lenOf, Builtin.firstCells]
    · simp at he
      obtain ⟨rfl, rfl⟩ := he
      simp [Builtin.append_, run_underlying ht, sizeOf, typeInfo, hi, Builtin.lenOf, Builtin.firstCells, hnc, storeCells]
  | some ad =>
    have hcells : ∀ j u, (fileCells gs)[j]? = some u → W.cell? (ad.add j) = some u := fun j u hj => by
      obtain ⟨b, o, he, -, hc⟩ := ha.2.2 (by intro h; rw [h] at hj; cases hj)
      cases he
      rw [add_plain]
      exact hc j u hj
    obtain ⟨v', w', hr, h2, h3, -, -⟩ := run_append_own_at (P := P) W base t ty e i z 2 bytes ht hi hz hsize hby hzs (by decide) v n xs hown ad m c (fileCells gs) hl hcells (fileCells_one gs) h63 hbytes hbase
    obtain ⟨F, fc, rfl, -, -⟩ := Row.of_own h2
    exact ⟨F, fc, w', hr, h2, h3⟩
theorem step_cat {P : Program} {W : World} {ops : Array Oper} {o : Oper} {a : Act} {K : Act → World → Prop} {Q : Exit → Act → World → Prop} {E : Prop} (hgd : o.guard = none) (s x : Operand) (t : TypeId)
    (ho : o.op = .call { callee := .builtin .append, args := #[s, x], argTypes := #[t, t] })
    (base : Nat) (e : TypeId) (i : TypeInfo) (z : Value) (bytes : Nat) (ht : P.underlying t = some (.slice e)) (hi : P.info? e = some i) (hz : i.zero = some z)
    (hsize : i.size = 2) (hby : i.bytes = bytes) (hzs : z.cells.size = 2)
    (v : Value) (n : Nat) (xs : List Value) (hs : a.eval s = v) (hown : W.ownsRow base e 2 v n xs)
    (A : Option Addr) (m c : Nat) (gs : List (Bs × Bs)) (hx : a.eval x = .slice A m c) (ha : FArgs W A m c gs) (N : Nat) (hN : n + m = N) (ys : List Value) (hys : xs ++ fileCells gs = ys)
    (h63 : N ≤ maxLen) (hbytes : N * bytes ≤ 140737488355328) (hbase : base ≤ W.heap.size)
    (h : ∀ F fc w', w'.ownsRow base e 2 (.slice F N fc) N ys → (∀ B w0, B ≤ base → Below B w0 W → Below B w0 w') →
      (∀ (j : Nat) (cs : Array Value) (T : TypeId) (fz : Nat × Nat), T ≠ e → W.heap[j]? = some (.cells cs T fz) → w'.heap[j]? = some (.cells cs T fz)) → (∀ j, j < W.heap.size → some j ≠ v.ownBlock → w'.heap[j]? = W.heap[j]?) → K (a.put o.dst (.slice F N fc)) w') :
    if Region.wanted o (yielded ops a.tmps) = true then Oper.wp P o a W K Q else E := by
  subst hN
  subst hys
  have hw : Region.wanted o (yielded ops a.tmps) = true := by simp [Region.wanted, hgd]
  rw [if_pos hw]
  obtain ⟨F, fc, w', hrun, h2, h3⟩ := run_cat (P := P) t o.type base e i z bytes ht hi hz hsize hby hzs v n xs hown ha h63 hbytes hbase
  unfold Oper.wp execOp
  simp only [ho, resolve, invoke, builtin, Sem.run_bind, Sem.run_pure, Result.andThen_ok, List.map_toArray, List.map_cons, List.map_nil, hs, hx, hrun]
  refine h F fc w' h2 (fun B w0 hB hb => hb.grown h3 (by omega) fun j hj => Nat.le_trans hB (hown.lt j hj).1) (fun j cs T fz hT hj => ?_) (fun j hj hne => h3.block j hj hne)
  exact (h3.block j (Lib.lt_of_heap hj) (own_ne hown hj hT)).trans hj
/-- a new row of no files -/
theorem own_made {w : World} {base g : Nat} {e : TypeId} (hb : base ≤ w.heap.size) (hg : g = w.heap.size) : (w.alloc (.cells #[] e)).ownsRow base e 2 (.slice (some ⟨g, 0, none⟩) 0 0) 0 [] := by
  subst hg
  exact World.ownsRow_made w #[] 0 hb (by decide) rfl
/-- the first of two new blocks -/
theorem first_of_two {W w : World} {a b : Obj} (h : W.heap = ((w.alloc a).alloc b).heap) : W.heap[w.heap.size]? = some a := by
  rw [h, Below.heap_alloc _ _ _ (by simp)]
  exact heap_alloc_new w a
end Go.Proofs.YtapnkeonffbmoaaDoor.Tx
