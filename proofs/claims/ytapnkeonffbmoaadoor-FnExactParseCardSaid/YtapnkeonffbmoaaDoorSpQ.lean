/-
  The walk of the reference's Parse: it returns an archive as the plain layer reads it, line by line. Condition: strings of less than 2^32 bytes.
-/
import Derived.Test.YtapnkeonffbmoaaDoorFld
import Derived.Test.YtapnkeonffbmoaaDoorFar
namespace Go.Proofs.YtapnkeonffbmoaaDoor.Tx
open Go Go.RowKit

theorem fileCells_set {gs : List (Bs × Bs)} {f : Bs × Bs} (x : Bs) : (fileCells (gs ++ [f])).set (gs.length * 2 + 1) (.string (S x)) = fileCells (gs ++ [(f.1, x)]) := by
  rw [fileCells_snoc, fileCells_snoc, ← fileCells_length gs, List.set_append_right _ _ (by omega)]
  simp
theorem flat_mem_le : ∀ {fs : List (Bs × Bs)} {f : Bs × Bs}, f ∈ fs → f.2.length ≤ (fs.map (·.2)).flatten.length
  | g :: r, f, h => by
    rw [List.map_cons, List.flatten_cons, List.length_append]
    rcases List.mem_cons.1 h with rfl | h
    · omega
    · have := flat_mem_le h
      omega
/-- what was read so far is no longer than the text -/
theorem body_le (nm : Bs → Bs) {s : ByteArray} {ls : List Bs} (h : ls.flatten.length ≤ s.size + 1) (k : Nat) : (body nm (ls.take k)).1.length ≤ s.size + 1 ∧ ∀ f ∈ (body nm (ls.take k)).2, f.2.length ≤ s.size + 1 := by
  have h1 := congrArg List.length (body_others nm (ls.take k))
  rw [List.length_append] at h1
  have h2 := filter_flat_le (fun x => (nm x).isEmpty) (ls.take k)
  have h3 := take_flat_le ls k
  refine ⟨by omega, fun f hf => ?_⟩
  have := flat_mem_le hf
  omega
theorem body_step {nm : Bs → Bs} {ls : List Bs} {k : Nat} (hk : k < ls.length) {c : Bs} {fs : List (Bs × Bs)} (h : (c, fs) = body nm (ls.take k)) : body nm (ls.take (k + 1)) = push nm (c, fs) ls[k] := by
  rw [List.take_succ_eq_append_getElem hk, body_snoc, ← h]

set_option maxHeartbeats 8000000 in
set_option maxRecDepth 100000 in
theorem specParse_any (s : ByteArray) (w : World) (hs : s.size ≤ 4294967295) :
    Calls Tryd.prog 18 #[.string s] w fun e w' => ∃ A n cap, e = .returned (.agg #[.string (S (parseWith mk s.data.toList).1), .slice A n cap]) ∧ FArgs w' A n cap (parseWith mk s.data.toList).2 ∧ Below w.heap.size w w' := by
  obtain ⟨i0, hi, hz0, hz1, hz2⟩ := info_parts infoIF
  obtain ⟨ls, hls⟩ : ∃ ls, ls = lines s.data.toList := ⟨_, rfl⟩
  have HFL := Lib.hid (lines_flat_le hls)
  have hll := lines_le hls
  have hlen := fun (k : Nat) (hk : k < ls.length) => line_len hls hk
  have HN := Lib.hid hlen
  have HLS := Lib.hid hls
  clear hls hlen
  have hL := fun W => Lib.hid (lines_far s W (by omega) ls HLS)
  go_enter Tryd.func18, Tryd.ntmps18
  go_wp2_with fail
  refine (hL _).out.mono ?_
  rintro e w1 ⟨A, cap, rfl, hcap, hfr', hb1⟩
  have hfr : ∀ w2, Far (w.heap.size + 1 + 1) w1.heap.size w1 w2 → w1.heap.size ≤ w2.heap.size → Row w2 A (strCells ls) := fun w2 h => hfr' w2 (by simpa using h)
  have hb0 : ∀ a b : Obj, Below w.heap.size w ((w.alloc a).alloc b) := fun a b => ((Below.refl _ _).alloc (Nat.le_refl _) a).alloc (by simp) b
  have hbw : Below w.heap.size w w1 := (hb0 _ _).trans (hb1.mono (hb0 _ _).size)
  have hR0 : w1.heap[w.heap.size]? = some (.cells #[.string ⟨#[]⟩, .slice none 0 0] 33 (0, 0)) := by
    rw [hb1.block _ (by simp; omega), Below.heap_alloc _ _ _ (by simp)]
    exact heap_alloc_new w _
  have hR1 : w1.heap[w.heap.size + 1]? = some (.cells #[.string ⟨#[]⟩, .slice none 0 0] 33 (0, 0)) := by
    rw [hb1.block _ (by simp)]
    exact second_block rfl
  have hsz1 : w.heap.size + 1 + 1 ≤ w1.heap.size := by have := hb1.size; simpa using this
  have HR0 := Lib.hid hR0
  have HR1 := Lib.hid hR1
  clear hL hfr' hb1 hb0 hR0 hR1
  go_wp2_with fail
  go_loopw [12] (fun i wr => ∃ (k m : Nat) (c : ByteArray) (vf : Value) (fs : List (Bs × Bs)), k ≤ ls.length ∧ i = .int .i64 k ∧ Hid ((c.data.toList, fs) = body mk (ls.take k)) ∧ Hid (m = fs.length) ∧
      wr.heap[w.heap.size + 1]? = some (.cells #[.string c, vf] 33 (0, 0)) ∧ wr.heap[w.heap.size]? = some (.cells #[.string ⟨#[]⟩, .slice none 0 0] 33 (0, 0)) ∧
      wr.ownsRow w1.heap.size 37 2 vf m (fileCells fs) ∧ Far (w.heap.size + 1 + 1) w1.heap.size w1 wr ∧ Below w.heap.size w wr ∧ w1.heap.size ≤ wr.heap.size) (fun i _ => ls.length - (intOf i).toNat)
  case atStart => exact ⟨0, 0, ⟨#[]⟩, .slice none 0 0, [], by omega, rfl, rfl, rfl, HR1.out, HR0.out, World.ownsRow_nil _ _ _ _, Far.refl _ _ _, hbw, Nat.le_refl _⟩
  case round =>
    obtain ⟨k, m, c, vf, fs, hk, rfl, HB, HM, hblk, hres, hown, hfar, hb, hge⟩ := hrel
    obtain ⟨F, fc, rfl, hfc, -⟩ := Row.of_own hown
    have hsz := hb.size
    have hmk : m ≤ k := by
      rw [HM.out, show fs = (body mk (ls.take k)).2 by rw [← HB.out]]
      exact Nat.le_trans (body_files_le _ _) (List.length_take_le _ _)
    have hle := body_le mk HFL.out k
    rw [← HB.out] at hle
    have hcs : c.size ≤ s.size + 1 := by rw [← size_list]; exact hle.1
    have HFS := Lib.hid hle.2
    clear hle
    have hk0 : wr.cell? ⟨w.heap.size + 1, 0, none⟩ = some (.string c) := by rw [Lib.cell_of_heap hblk]; rfl
    have hk1 : wr.cell? ⟨w.heap.size + 1, 1, none⟩ = some (.slice F m fc) := by rw [Lib.cell_of_heap hblk]; rfl
    have hf0 : wr.frozen? ⟨w.heap.size + 1, 0, none⟩ = false := by simp [World.frozen?, hblk]
    by_cases hlt : k < ls.length
    · obtain ⟨b, off, t, rfl, hbt, hct, ht⟩ := row_string (hfr wr hfar hge) hlt
      have hn := HN.out k hlt
      rw [← ht, size_list] at hn
      have HT := Lib.hid ht
      clear ht
      have HBK := Lib.hid hblk
      have HRS := Lib.hid hres
      have HOWN := Lib.hid hown
      have HST := Lib.hid (body_step hlt HB.out)
      clear hblk hres hown
      cases hm : (mkS t).toList.isEmpty
      · have HE := Lib.hid (mkS_no hm)
        have hld := cell_one hk1
        go_wp2_with fail
        refine (marker_any t _ (by omega) (by omega)).mono ?_
        rintro e w' ⟨rfl, rfl⟩
        go_wp2_with (at_builtin; refine list_push rfl (.tmp 30) (.tmp 33) 31 rfl w1.heap.size 37 i0 _ 32 Tryd.underlying31 hi hz0 hz1 hz2 rfl (.slice F m fc) m (fileCells fs) rfl (owns_heap (HOWN.out.alloc _) rfl) _ _ rfl _ _ _ _ (first_block rfl) ⟨rfl, rfl⟩ (by unfold maxLen; omega) (by omega) (by simp; omega) _ _ _ (old_block1 rfl HBK.out) (by decide) (.slice F m fc) rfl ?_; intro g cp w4 hown4 hgrow4 hR4 hc4 hf4)
        have HG4 := Lib.hid hgrow4
        have HO4 := Lib.hid hown4
        have HR4 := Lib.hid hR4
        clear hgrow4 hown4 hR4
        go_wp2
        go_roundw
        case rel =>
          have own2 := HOWN.out.lt
          have hW0 : w4.heap[w.heap.size]? = some (.cells #[.string ⟨#[]⟩, .slice none 0 0] 33 (0, 0)) := by
            have hlt0 := Lib.lt_of_heap HRS.out
            rw [HG4.out.block _ (by simp; omega) (fun e => by have := own2 _ e.symm; omega), Below.heap_alloc _ _ _ hlt0]
            exact HRS.out
          refine ⟨k + 1, m + 1, c, .slice (some ⟨g, 0, none⟩) (m + 1) cp, fs ++ [(mk t.data.toList, [])], by omega, by go_num, ?_, ?_, ?_, ?_, ?_, ?_, ?_, ?_⟩
          · refine Lib.hid ?_
            rw [HST.out, push, ← HT.out, if_neg (by simpa using HE.out)]
          · refine Lib.hid ?_
            rw [HM.out]; simp
          · have := HR4.out
            simp [World.setCell, Array.getElem?_modify, this]
          · rw [Below.heap_setCell _ _ _ _ (by simp)]
            exact hW0
          · have := HO4.out
            rw [fileCells_snoc]
            exact ownsRow_setCell_other this (own_ne this HR4.out (by decide)).symm _
          · exact (((hfar.alloc hge _).grown HG4.out (by simp; omega) (fun j hj => (own2 j hj).1))).setCell (.inl (by simp)) _
          · exact ((hb.alloc hsz _).grown HG4.out (by simp; omega) (fun j hj => by have := (own2 j hj).1; omega)).setCell (by simp) _
          · have := HG4.out.size
            simp [World.setCell] at this ⊢
            omega
        case measure => simp [intOf]; omega
      · have HE := Lib.hid (mkS_yes hm)
        rcases Nat.eq_zero_or_pos m with h0 | h0
        · subst h0
          have hfs0 : fs = [] := List.eq_nil_of_length_eq_zero HM.out.symm
          subst hfs0
          go_wp2_with fail
          refine (marker_any t _ (by omega) (by omega)).mono ?_
          rintro e w' ⟨rfl, rfl⟩
          go_wp2
          go_roundw
          case rel =>
            refine ⟨k + 1, 0, c ++ t, .slice F 0 fc, [], by omega, by go_num, ?_, rfl, ?_, ?_, ?_, ?_, ?_, ?_⟩
            · refine Lib.hid ?_
              rw [HST.out, push, ← HT.out, if_pos (by simpa using HE.out), append_list]
              simp
            · have := HBK.out
              simp [World.setCell, Array.getElem?_modify, this]
            · rw [Below.heap_setCell _ _ _ _ (by simp)]
              exact HRS.out
            · exact ownsRow_setCell_other HOWN.out (own_ne HOWN.out HBK.out (by decide)).symm _
            · exact hfar.setCell (.inl (by simp)) _
            · exact hb.setCell (by simp) _
            · simpa [World.setCell] using hge
          case measure => simp [intOf]; omega
        · obtain ⟨q, rfl⟩ : ∃ q, m = q + 1 := ⟨m - 1, by omega⟩
          obtain ⟨g, fc', hv, hg, hgl⟩ := HOWN.out.form (by omega)
          cases hv
          obtain ⟨gs, f, rfl⟩ := snoc_of (l := fs) (by rintro rfl; have := HM.out; simp at this)
          have hq : q = gs.length := by have := HM.out; simp at this; exact this
          obtain ⟨x, hx⟩ : ∃ x, x = S f.2 := ⟨_, rfl⟩
          have hxs : x.size ≤ s.size + 1 := by rw [hx, S_size]; exact HFS.out f (by simp)
          have hcell : wr.cell? ⟨g, q * 2 + 1, none⟩ = some (.string x) := by
            rw [HOWN.out.cellAt _ (by omega), fileCells_snoc, hq, hx, ← fileCells_length gs, List.getElem?_append_right (by omega)]
            simp
          have hfrz : wr.frozen? ⟨g, q * 2 + 1, none⟩ = false := HOWN.out.frozenAt _
          have HQ := Lib.hid hq
          have HX := Lib.hid hx
          clear hq hx
          go_wp2_with fail
          refine (marker_any t _ (by omega) (by omega)).mono ?_
          rintro e w' ⟨rfl, rfl⟩
          go_wp2
          go_roundw
          case rel =>
            have hst := HOWN.out.stored (q * 2 + 1) (.string (x ++ t))
            have hgne : g ≠ w.heap.size + 1 := by omega
            refine ⟨k + 1, q + 1, c, .slice (some ⟨g, 0, none⟩) (q + 1) fc, gs ++ [(f.1, f.2 ++ t.data.toList)], by omega, by go_num, ?_, ?_, ?_, ?_, ?_, ?_, ?_, ?_⟩
            · refine Lib.hid ?_
              rw [HST.out, push, ← HT.out, if_pos (by simpa using HE.out), if_neg (by simp)]
              simp
            · refine Lib.hid ?_
              have := HM.out
              simpa using this
            · rw [Below.heap_setCell _ _ _ _ (by simp; omega)]
              exact HBK.out
            · rw [Below.heap_setCell _ _ _ _ (by simp; omega)]
              exact HRS.out
            · have h5 := hst.1
              have e : Value.string (x ++ t) = .string (S (f.2 ++ t.data.toList)) := congrArg Value.string (ba_eq (by rw [append_list, HX.out, S_data, S_data]))
              rw [e] at h5 ⊢
              have h6 := fileCells_set (gs := gs) (f := f) (f.2 ++ t.data.toList)
              rw [← HQ.out] at h6
              rw [h6] at h5
              exact h5
            · exact hfar.setCell (.inr (by simp; omega)) _
            · exact hb.setCell (by simp; omega) _
            · simpa [World.setCell] using hge
          case measure => simp [intOf]; omega
    · have hke : ls.take k = ls := List.take_of_length_le (by omega)
      have hpe : (c.data.toList, fs) = parseWith mk s.data.toList := by
        rw [HB.out, hke, HLS.out]
        rfl
      have HPE := Lib.hid hpe
      clear hpe
      have hs0 : wr.cell? ⟨w.heap.size, 0, none⟩ = some (.string ⟨#[]⟩) := by rw [Lib.cell_of_heap hres]; rfl
      have hs1 : wr.cell? ⟨w.heap.size, 1, none⟩ = some (.slice none 0 0) := by rw [Lib.cell_of_heap hres]; rfl
      have hg0 : wr.frozen? ⟨w.heap.size, 0, none⟩ = false := by simp [World.frozen?, hres]
      have hg1 : wr.frozen? ⟨w.heap.size, 1, none⟩ = false := by simp [World.frozen?, hres]
      have hne := own_ne hown hres (by decide)
      have hown9 := fun x y => ownsRow_setCell_other (a := ⟨w.heap.size, 1, none⟩) (ownsRow_setCell_other (a := ⟨w.heap.size, 0, none⟩) hown hne.symm x) hne.symm y
      have HRS := Lib.hid hres
      have HOWN := Lib.hid hown9
      clear hblk hres hown hown9
      go_wp2
      (try simp only [Exit.inBlock, Exit.then])
      have hR9 : ((wr.setCell ⟨w.heap.size, 0, none⟩ (.string c)).setCell ⟨w.heap.size, 1, none⟩ (.slice F m fc)).heap[w.heap.size]? = some (.cells #[.string c, .slice F m fc] 33 (0, 0)) := by
        have := HRS.out
        simp [World.setCell, Array.getElem?_modify, this]
      refine bodyPost_ret (results_cell_row rfl _ _ w.heap.size 33 _ (0, 0) _ rfl hR9 Tryd.underlying33 rfl (by kernel_rfl)) rfl ?_
      refine ⟨F, m, fc, by rw [← HPE.out]; simp only [S_of], ?_, ?_⟩
      · rw [← HPE.out]
        obtain ⟨A9, c9, he9, hc9, hrow9⟩ := Row.of_own (HOWN.out (.string c) (.slice F m fc))
        have e1 : A9 = F := by simpa using (congrArg (fun v => match v with | Value.slice a _ _ => a | _ => none) he9).symm
        subst e1
        exact ⟨HM, hfc, hrow9⟩
      · exact (hb.setCell (p := ⟨w.heap.size, 0, none⟩) (Nat.le_refl _) _).setCell (Nat.le_refl _) _
end Go.Proofs.YtapnkeonffbmoaaDoor.Tx
