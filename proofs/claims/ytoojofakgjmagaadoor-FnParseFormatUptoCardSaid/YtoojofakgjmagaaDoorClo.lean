/-
  The walk of the reference's Closed: an archive whose comment and texts end as they should. Condition: names and texts of at most 2^32 bytes, at most 2^32 files.
-/
import Derived.Test.YtoojofakgjmagaaDoorImpP
import Derived.Test.YtoojofakgjmagaaDoorSpF
namespace Go.Proofs.YtoojofakgjmagaaDoor.Tx
open Go Go.RowKit

def closedFs (fs : List (Bs × Bs)) : List (Bs × Bs) := fs.map fun f => (f.1, ended f.2)
theorem closed_round {w wr w2 w4 W : World} {B R R0 k : Nat} {fs : List (Bs × Bs)} {vc vf : Value} {Z : Obj} {a1 a2 : Obj} {TA TF : TypeId} (hne : TA ≠ TF) (hB : B ≤ R) (hR0 : R0 ≠ R) (hT0 : ∃ cs fz, Z = .cells cs TA fz)
    (hres : wr.heap[R0]? = some Z) (hown : wr.ownsRow B TF 2 vf k (fileCells (closedFs (fs.take k)))) (hb : Below B w wr) (hsz : B ≤ wr.heap.size) (hk : k < fs.length)
    (hw2 : w2.heap = ((wr.alloc a1).alloc a2).heap) (hos : w2.os = wr.os) (htp : w2.tape = wr.tape) (hout : w2.output = wr.output)
    {s t : ByteArray} (hs : s.data.toList = fs[k].1) (ht : t.data.toList = fs[k].2)
    {g cp : Nat} (hown4 : w4.ownsRow B TF 2 (.slice (some ⟨g, 0, none⟩) (k + 1) cp) (k + 1) (fileCells (closedFs (fs.take k)) ++ [.string s, .string (endedS t)])) (hgrow : w2.grownBy w4 vf.ownBlock) (hR4 : w4.heap[R]? = some (.cells #[vc, vf] TA (0, 0)))
    (hW : W.heap = (w4.setCell ⟨R, 1, none⟩ (.slice (some ⟨g, 0, none⟩) (k + 1) cp)).heap) (hWo : W.os = w4.os) (hWt : W.tape = w4.tape) (hWu : W.output = w4.output) :
    W.heap[R]? = some (.cells #[vc, .slice (some ⟨g, 0, none⟩) (k + 1) cp] TA (0, 0)) ∧ W.heap[R0]? = some Z ∧ W.ownsRow B TF 2 (.slice (some ⟨g, 0, none⟩) (k + 1) cp) (k + 1) (fileCells (closedFs (fs.take (k + 1)))) ∧ Below B w W := by
  have b2 : Below wr.heap.size wr w2 := ⟨hos, htp, hout, by rw [hw2]; simp; omega, fun j hj => by
    rw [hw2, Below.heap_alloc _ _ _ (by simp; omega), Below.heap_alloc _ _ _ hj]⟩
  have hown2 : w2.ownsRow B TF 2 vf k (fileCells (closedFs (fs.take k))) := owns_heap ((hown.alloc a1).alloc a2) hw2
  have h20 : w2.heap[R0]? = some Z := (b2.block _ (Lib.lt_of_heap hres)).trans hres
  obtain ⟨cs0, fz0, rfl⟩ := hT0
  have h40 : w4.heap[R0]? = some (.cells cs0 TA fz0) := (hgrow.block R0 (Lib.lt_of_heap h20) (own_ne hown2 h20 hne)).trans h20
  have e : fileCells (closedFs (fs.take (k + 1))) = fileCells (closedFs (fs.take k)) ++ [.string s, .string (endedS t)] := by
    unfold closedFs
    rw [List.take_succ_eq_append_getElem hk, List.map_append]
    have := fileCells_snoc ((fs.take k).map fun f => (f.1, ended f.2)) (fs[k].1, ended fs[k].2)
    simp only [List.map_cons, List.map_nil]
    rw [this, ← hs, ← ht]
    unfold endedS
    simp only [S_of]
  refine ⟨?_, ?_, ?_, ?_⟩
  · rw [hW]
    simp [World.setCell, Array.getElem?_modify, hR4]
  · rw [hW, Below.heap_setCell _ _ _ _ hR0]
    exact h40
  · rw [e]
    exact owns_heap (w := w4.setCell ⟨R, 1, none⟩ (.slice (some ⟨g, 0, none⟩) (k + 1) cp)) (ownsRow_setCell_other hown4 (own_ne hown4 hR4 hne).symm _) hW
  · have hb4 : Below B w w4 := ((hb.trans (b2.mono hsz)).grown hgrow (by have := b2.size; omega) (fun j hj => (hown2.lt j hj).1))
    have hb5 := hb4.setCell (p := ⟨R, 1, none⟩) hB (.slice (some ⟨g, 0, none⟩) (k + 1) cp)
    exact ⟨hWo.trans hb4.os, hWt.trans hb4.tape, hWu.trans hb4.output, by rw [hW]; exact hb5.size, fun j hj => by rw [hW]; exact hb5.block j hj⟩

set_option maxHeartbeats 8000000 in
set_option maxRecDepth 100000 in
theorem closed_any (c : ByteArray) (A : Option Addr) (n cap : Nat) (fs : List (Bs × Bs)) (w : World) (ha : FArgs w A n cap fs) (hcs : c.size ≤ 4294967296) (hfs : Hid (∀ f ∈ fs, f.1.length ≤ 4294967296 ∧ f.2.length ≤ 4294967296)) (hn64 : n ≤ 4294967296) :
    Calls Tryd.prog 23 #[.agg #[.string c, .slice A n cap]] w fun e w' => ∃ A' n' cap', e = .returned (.agg #[.string (endedS c), .slice A' n' cap']) ∧ FArgs w' A' n' cap' (closedFs fs) ∧ Below w.heap.size w w' := by
  obtain ⟨i0, hi, hz0, hz1, hz2⟩ := info_parts infoIF
  obtain ⟨x, hx⟩ : ∃ x, x = endedS c := ⟨_, rfl⟩
  have HX := Lib.hid hx
  have hb3 : ∀ a b d : Obj, Below w.heap.size w (((w.alloc a).alloc b).alloc d) := fun a b d => (((Below.refl _ w).alloc (Nat.le_refl _) a).alloc (by simp) b).alloc (by simp; omega) d
  rw [← hx]
  clear hx
  go_enter Tryd.func23, Tryd.ntmps23
  go_wp2_with fail
  refine (ended_any c _ hcs).mono ?_
  rw [← HX.out]
  rintro e w1 ⟨rfl, rfl⟩
  go_wp2_with fail
  go_loopw [13] (fun i wr => ∃ (k : Nat) (vf : Value), k ≤ n ∧ i = .int .i64 k ∧ wr.heap[w.heap.size + 1 + 1]? = some (.cells #[.string x, vf] 24 (0, 0)) ∧ wr.heap[w.heap.size + 1]? = some (.cells #[.string ⟨#[]⟩, .slice none 0 0] 24 (0, 0)) ∧
      wr.ownsRow w.heap.size 36 2 vf k (fileCells (closedFs (fs.take k))) ∧ Below w.heap.size w wr) (fun i _ => n - (intOf i).toNat)
  case atStart => exact ⟨0, .slice none 0 0, by omega, rfl, third_block rfl, mid_block rfl, World.ownsRow_nil _ _ _ _, hb3 _ _ _⟩
  case round =>
    obtain ⟨k, vf, hk, rfl, hblk, hres, hown, hb⟩ := hrel
    have hsz := hb.size
    by_cases hlt : k < n
    · have hkl : k < fs.length := by rw [← ha.1.out]; exact hlt
      obtain ⟨b, off, s, t, rfl, hbw, hc1, hc2, hs, ht⟩ := row_file (ha.2.2.below hb) hkl
      have hls : s.size ≤ 4294967296 := by rw [← size_list, hs]; exact (hfs.out _ (List.getElem_mem hkl)).1
      have hlt' : t.size ≤ 4294967296 := by rw [← size_list, ht]; exact (hfs.out _ (List.getElem_mem hkl)).2
      have HS := Lib.hid hs
      have HT := Lib.hid ht
      have hlt2 : w.heap.size + 1 + 1 < wr.heap.size := Lib.lt_of_heap hblk
      have hld : wr.cell? ⟨w.heap.size + 1 + 1, 1, none⟩ = some vf := by rw [Lib.cell_of_heap hblk]; rfl
      have hld1 := fun o => cell_one hld o
      have hld2 := cell_two hld
      have hf0 := cell_new0 wr (.string s) (.string t) 36
      have hf1 := cell_new1 wr (.string s) (.string t) 36
      have HB := Lib.hid hblk
      have HRS := Lib.hid hres
      have HOWN := Lib.hid hown
      clear hblk hown hres hs ht hb3
      go_wp2_with fail
      go_region_law (first
        | (refine step_push rfl (.tmp 18) (.tmp 25) 22 rfl w.heap.size 36 i0 _ 32 Tryd.underlying22 hi hz0 hz1 hz2 rfl vf k (fileCells (closedFs (fs.take k))) rfl (owns_heap ((HOWN.out.alloc _).alloc _) rfl) _ _ rfl _ _ _ _ (second_block rfl) ⟨rfl, rfl⟩ (by unfold maxLen; omega) (by omega) (by simp; omega) _ _ _ (old_block2 rfl HB.out) (by decide) vf rfl ?_; intro g cp w4 hown4 hgrow4 hR4 hc4 hf4)
        | (go_simp; go_at_call 20; refine (ended_any t _ hlt').mono ?_; rintro e w' ⟨rfl, rfl⟩))
      all_goals
        have HG4 := Lib.hid hgrow4
        have HO4 := Lib.hid hown4
        have HR4 := Lib.hid hR4
        clear hgrow4 hown4 hR4
        go_wp2
        go_roundw
        case rel =>
          have hrd := closed_round (fs := fs) (W := _) (Z := .cells #[.string ⟨#[]⟩, .slice none 0 0] 24 (0, 0)) (by decide) (show w.heap.size ≤ w.heap.size + 1 + 1 by omega) (show w.heap.size + 1 ≠ w.heap.size + 1 + 1 by omega) ⟨_, _, rfl⟩ HRS.out HOWN.out hb hsz hkl (by rfl) (by rfl) (by rfl) (by rfl) HS.out HT.out HO4.out HG4.out HR4.out rfl rfl rfl rfl
          exact ⟨k + 1, .slice (some ⟨g, 0, none⟩) (k + 1) cp, by omega, by go_num, hrd.1, hrd.2.1, hrd.2.2.1, hrd.2.2.2⟩
        case measure => simp [intOf]; omega
    · have hke : k = n := by omega
      subst hke
      have htk : fs.take k = fs := List.take_of_length_le (by rw [← ha.1.out]; exact Nat.le_refl _)
      rw [htk] at hown
      clear htk
      have hd0 : wr.cell? ⟨w.heap.size + 1 + 1, 0, none⟩ = some (.string x) := by rw [Lib.cell_of_heap hblk]; rfl
      have hd1 : wr.cell? ⟨w.heap.size + 1 + 1, 1, none⟩ = some vf := by rw [Lib.cell_of_heap hblk]; rfl
      have hs0 : wr.cell? ⟨w.heap.size + 1, 0, none⟩ = some (.string ⟨#[]⟩) := by rw [Lib.cell_of_heap hres]; rfl
      have hs1 : wr.cell? ⟨w.heap.size + 1, 1, none⟩ = some (.slice none 0 0) := by rw [Lib.cell_of_heap hres]; rfl
      have hf0 : wr.frozen? ⟨w.heap.size + 1, 0, none⟩ = false := by simp [World.frozen?, hres]
      have hf1 : wr.frozen? ⟨w.heap.size + 1, 1, none⟩ = false := by simp [World.frozen?, hres]
      have hne := own_ne hown hres (by decide)
      have hown9 := fun x y => ownsRow_setCell_other (a := ⟨w.heap.size + 1, 1, none⟩) (ownsRow_setCell_other (a := ⟨w.heap.size + 1, 0, none⟩) hown hne.symm x) hne.symm y
      obtain ⟨F5, fc5, rfl, hfc5, -⟩ := Row.of_own hown
      have HR5 := Lib.hid hres
      have HOWN := Lib.hid hown9
      clear hblk hown hres hown9 hb3
      go_wp2
      (try simp only [Exit.inBlock, Exit.then])
      have hR9 : ((wr.setCell ⟨w.heap.size + 1, 0, none⟩ (.string x)).setCell ⟨w.heap.size + 1, 1, none⟩ (.slice F5 k fc5)).heap[w.heap.size + 1]? = some (.cells #[.string x, .slice F5 k fc5] 24 (0, 0)) := by
        have := HR5.out
        simp [World.setCell, Array.getElem?_modify, this]
      refine bodyPost_ret (results_cell_row rfl _ _ (w.heap.size + 1) 24 _ (0, 0) _ rfl hR9 Tryd.underlying24 rfl (by kernel_rfl)) rfl ?_
      refine ⟨F5, k, fc5, rfl, ?_, ?_⟩
      · obtain ⟨A9, c9, he9, hc9, hrow9⟩ := Row.of_own (HOWN.out (.string x) (.slice F5 k fc5))
        have e1 : A9 = F5 := by simpa using (congrArg (fun v => match v with | Value.slice a _ _ => a | _ => none) he9).symm
        subst e1
        refine ⟨Lib.hid ?_, hfc5, hrow9⟩
        unfold closedFs
        rw [List.length_map]
        exact ha.1.out
      · exact ((hb.setCell (p := ⟨w.heap.size + 1, 0, none⟩) (by simp) _).setCell (by simp) _)
end Go.Proofs.YtoojofakgjmagaaDoor.Tx
