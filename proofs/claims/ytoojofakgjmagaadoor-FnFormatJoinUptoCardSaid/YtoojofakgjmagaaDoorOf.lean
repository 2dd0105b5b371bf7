/-
  The walk of impl.of: an archive of strings is made into the package's, comment and texts copied. Conditions: each text at most 2^32 bytes, at most 2^32 files.
-/
import Derived.Test.YtoojofakgjmagaaDoorInf
import Derived.WalkLawsBesides
namespace Go.Proofs.YtoojofakgjmagaaDoor.Tx
open Go Go.RowKit

/-- what the round's end needs, out of what the append and the store leave -/
theorem of_round {w wr w2 w4 : World} {B R k : Nat} {fs : List (Bs × Bs)} {vc vf : Value} {vs : List Value} {c : Bs} {a1 a2 a3 : Obj} {TA TF TU : TypeId} (hTU : TA ≠ TU) (hTF : TF ≠ TU) (hB : B ≤ R)
    (hk : k < fs.length) (hbv : BV True TU wr vc c) (hown : wr.ownsRow B TF 2 vf k vs) (htc : TCells True TU wr vs (fs.take k)) (hb : Below B w wr) (hsz : B ≤ wr.heap.size)
    (hw2 : w2.heap = (((wr.alloc a1).alloc a2).alloc a3).heap) (hos : w2.os = wr.os) (htp : w2.tape = wr.tape) (hout : w2.output = wr.output)
    {s t : ByteArray} (hs : s.data.toList = fs[k].1) (ht : t.data.toList = fs[k].2) {ct : Nat} (hct : t.size ≤ ct) (fr : Nat × Nat) (ha2 : a2 = .cells (bytesRow t ct) TU fr)
    {g cp : Nat} (hown4 : w4.ownsRow B TF 2 (.slice (some ⟨g, 0, none⟩) (k + 1) cp) (k + 1) (vs ++ [.string s, .slice (some ⟨wr.heap.size + 1, 0, none⟩) t.size ct])) (hgrow : w2.grownBy w4 vf.ownBlock) (hR4 : w4.heap[R]? = some (.cells #[vc, vf] TA (0, 0))) (hne : TA ≠ TF) (W : World) (hW : W.heap = (w4.setCell ⟨R, 1, none⟩ (.slice (some ⟨g, 0, none⟩) (k + 1) cp)).heap) (hWo : W.os = w4.os) (hWt : W.tape = w4.tape) (hWu : W.output = w4.output) :
    ∃ vf' vs', W.heap[R]? = some (.cells #[vc, vf'] TA (0, 0)) ∧ BV True TU W vc c ∧ W.ownsRow B TF 2 vf' (k + 1) vs' ∧ TCells True TU W vs' (fs.take (k + 1)) ∧ Below B w W := by
  have b2 : Below wr.heap.size wr w2 := ⟨hos, htp, hout, by rw [hw2]; simp; omega, fun j hj => by
    rw [hw2, Below.heap_alloc _ _ _ (by simp; omega), Below.heap_alloc _ _ _ (by simp; omega), Below.heap_alloc _ _ _ hj]⟩
  have k2 : Keeps TU wr w2 := Keeps.of_below b2
  have hown2 : w2.ownsRow B TF 2 vf k vs := owns_heap (((hown.alloc a1).alloc a2).alloc a3) hw2
  have k4 : Keeps TU w2 w4 := Keeps.of_grown hgrow fun j cs fz hj => own_ne hown2 hj (fun e => hTF e.symm)
  have k5 : Keeps TU w4 (w4.setCell ⟨R, 1, none⟩ (.slice (some ⟨g, 0, none⟩) (k + 1) cp)) := Keeps.of_setCell hR4 hTU _
  have k6 : Keeps TU w4 W := ⟨by rw [hW]; exact k5.size, fun j cs fz hj => by rw [hW]; exact k5.block j cs fz hj⟩
  have kk := (k2.trans k4).trans k6
  refine ⟨.slice (some ⟨g, 0, none⟩) (k + 1) cp, vs ++ [.string s, .slice (some ⟨wr.heap.size + 1, 0, none⟩) t.size ct], ?_, hbv.keeps kk, owns_heap (w := w4.setCell ⟨R, 1, none⟩ (.slice (some ⟨g, 0, none⟩) (k + 1) cp)) ?_ hW, ?_, ?_⟩
  · rw [hW]
    simp [World.setCell, Array.getElem?_modify, hR4]
  · exact ownsRow_setCell_other hown4 (own_ne hown4 hR4 hne).symm _
  · rw [List.take_succ_eq_append_getElem hk]
    have e1 : S fs[k].1 = s := by rw [← hs]; exact S_of s
    rw [← e1]
    refine (htc.keeps kk).snoc (f := fs[k]) ?_
    have hbs : BS True TU w2 (some ⟨wr.heap.size + 1, 0, none⟩) t.size ct fs[k].2 := by
      rw [← ht]
      exact BS.of_block (fr := fr) (by rw [mid_block hw2, ha2]) hct
    exact hbs.keeps (k4.trans k6)
  · have hb4 : Below B w w4 := ((hb.trans (b2.mono hsz)).grown hgrow (by have := b2.size; omega) (fun j hj => (hown2.lt j hj).1))
    have hb5 := hb4.setCell (p := ⟨R, 1, none⟩) hB (.slice (some ⟨g, 0, none⟩) (k + 1) cp)
    exact ⟨hWo.trans hb4.os, hWt.trans hb4.tape, hWu.trans hb4.output, by rw [hW]; exact hb5.size, fun j hj => by rw [hW]; exact hb5.block j hj⟩

theorem of_rel {w W : World} {B R k n : Nat} {fs : List (Bs × Bs)} {vc : Value} {c : Bs} {TA TF TU : TypeId} (hlt : k < n)
    (h : ∃ vf' vs', W.heap[R]? = some (.cells #[vc, vf'] TA (0, 0)) ∧ BV True TU W vc c ∧ W.ownsRow B TF 2 vf' (k + 1) vs' ∧ TCells True TU W vs' (fs.take (k + 1)) ∧ Below B w W) :
    ∃ (k' : Nat) (vc vf : Value) (vs : List Value), k' ≤ n ∧ Value.int .i64 ((k : Int) + 1) = .int .i64 k' ∧ W.heap[R]? = some (.cells #[vc, vf] TA (0, 0)) ∧ BV True TU W vc c ∧ W.ownsRow B TF 2 vf k' vs ∧ TCells True TU W vs (fs.take k') ∧ Below B w W := by
  obtain ⟨vf', vs', h⟩ := h
  exact ⟨k + 1, vc, vf', vs', by omega, by go_num, h⟩
theorem of_end {wr : World} {B R k n : Nat} {fs : List (Bs × Bs)} {vc vf : Value} {vs : List Value} {c : Bs} {TA TF TU : TypeId} (hn : Hid (n = fs.length)) (hk : n ≤ k) (hblk : wr.heap[R]? = some (.cells #[vc, vf] TA (0, 0))) (hbv : BV True TU wr vc c)
    (hown : wr.ownsRow B TF 2 vf k vs) (htc : TCells True TU wr vs (fs.take k)) : TArch True TU wr R (c, fs) := by
  obtain ⟨A', n', cap', rfl, hbs⟩ := hbv
  obtain ⟨F, fcap, rfl, hfc, hrow⟩ := Row.of_own hown
  have e : fs.take k = fs := List.take_of_length_le (by rw [← hn.out]; exact hk)
  rw [e] at htc
  have hkn : k = fs.length := by
    have h1 := htc.1
    have h2 := hown.1
    omega
  exact ⟨Lib.lt_of_heap hblk, A', n', cap', F, k, fcap, vs, by rw [Lib.cell_of_heap hblk]; rfl, hbs, by rw [Lib.cell_of_heap hblk]; rfl, hkn, hfc, hrow, htc⟩

set_option maxHeartbeats 8000000 in
set_option maxRecDepth 100000 in
theorem of_any (c : ByteArray) (A : Option Addr) (n cap : Nat) (fs : List (Bs × Bs)) (w : World) (hn : Hid (n = fs.length)) (hr : Row w A (fileCells fs)) (hfs : Hid (∀ f ∈ fs, f.1.length ≤ 4294967296 ∧ f.2.length ≤ 4294967296)) (hn64 : n ≤ 4294967296) :
    Calls Tryd.prog 27 #[.agg #[.string c, .slice A n cap]] w fun e w' => ∃ b, e = .returned (.pointer (some ⟨b, 0, none⟩)) ∧ TArch True 5 w' b (c.data.toList, fs) ∧ Below w.heap.size w w' := by
  obtain ⟨i0, hi, hz0, hz1, hz2⟩ := info_parts infoTF
  have hcv := fun (u : World) (s : ByteArray) => run_bytes_of_string (P := Tryd.prog) u 9 38 5 s Tryd.underlying9 Tryd.underlying38 Tryd.underlying5
  go_enter Tryd.func27, Tryd.ntmps27
  go_wp2_with fail
  go_loopw [14] (fun i wr => ∃ (k : Nat) (vc vf : Value) (vs : List Value), k ≤ n ∧ i = .int .i64 k ∧ wr.heap[w.heap.size + 1 + 1]? = some (.cells #[vc, vf] 47 (0, 0)) ∧ BV True 5 wr vc c.data.toList ∧
      wr.ownsRow w.heap.size 49 2 vf k vs ∧ TCells True 5 wr vs (fs.take k) ∧ Below w.heap.size w wr) (fun i _ => n - (intOf i).toNat)
  case atStart =>
    refine ⟨0, _, _, [], by omega, rfl, third_block rfl, ⟨_, _, _, rfl, ?_⟩, World.ownsRow_nil _ _ _ _, TCells.nil _ _ _, ?_⟩
    · exact BS.of_block (mid_block rfl) (grownCap_ge _ _ _ _)
    · exact (((((Below.refl _ w).alloc (Nat.le_refl _) _).alloc (by simp) _).alloc (by simp; omega) _)).drew
  case round =>
    obtain ⟨k, vc, vf, vs, hk, rfl, hblk, hbv, hown, htc, hb⟩ := hrel
    have hsz := hb.size
    have HBV := Lib.hid hbv
    have HTC := Lib.hid htc
    clear hbv htc
    by_cases hlt : k < n
    · have hkl : k < fs.length := by rw [← hn.out]; exact hlt
      obtain ⟨b, off, s, t, rfl, hbw, hc1, hc2, hs, ht⟩ := row_file (hr.below hb) hkl
      have hls : s.size ≤ 4294967296 := by rw [← size_list, hs]; exact (hfs.out _ (List.getElem_mem hkl)).1
      have hlt' : t.size ≤ 4294967296 := by rw [← size_list, ht]; exact (hfs.out _ (List.getElem_mem hkl)).2
      have HS := Lib.hid hs
      have HT := Lib.hid ht
      clear hs ht
      have hlt2 : w.heap.size + 1 + 1 < wr.heap.size := Lib.lt_of_heap hblk
      have hld : wr.cell? ⟨w.heap.size + 1 + 1, 1, none⟩ = some vf := by rw [Lib.cell_of_heap hblk]; rfl
      have hld2 := cell_two hld
      have hld3 := cell_three hld
      have hf0 := cell_new0 wr (.string s) (.string t) 36
      have hf1 := cell_new1 wr (.string s) (.string t) 36
      have HB := Lib.hid hblk
      have HOWN := Lib.hid hown
      clear hblk hown
      go_wp2_with fail
      go_region_law (refine step_push rfl (.tmp 22) (.tmp 29) 45 rfl w.heap.size 49 i0 _ 40 Tryd.underlying45 hi hz0 hz1 hz2 rfl vf k vs rfl (owns_heap (((HOWN.out.alloc _).alloc _).alloc _) rfl) _ _ rfl _ _ _ _ (third_block rfl) ⟨rfl, rfl⟩ (by unfold maxLen; omega) (by omega) (by simp; omega) _ _ _ (old_block rfl HB.out) (by decide) vf rfl ?_; intro g cp w4 hown4 hgrow4 hR4 hc4 hf4)
      all_goals
        have HG4 := Lib.hid hgrow4
        have HO4 := Lib.hid hown4
        have HR4 := Lib.hid hR4
        clear hgrow4 hown4 hR4
        go_wp2
        go_roundw
        case rel =>
          refine of_rel (vc := vc) hlt ?_
          exact of_round (by decide) (by decide) (by omega) hkl HBV.out HOWN.out HTC.out hb hsz (by rfl) (by rfl) (by rfl) (by rfl) HS.out HT.out (grownCap_ge _ _ _ _) _ (by rfl) HO4.out HG4.out HR4.out (by decide) _ (by rfl) (by rfl) (by rfl) (by rfl)
        case measure => simp [intOf]; omega
    · have HB := Lib.hid hblk
      have HOWN := Lib.hid hown
      clear hblk hown
      go_wp2
      go_ret
      exact ⟨_, rfl, of_end hn (by omega) HB.out HBV.out HOWN.out HTC.out, hb⟩
end Go.Proofs.YtoojofakgjmagaaDoor.Tx
