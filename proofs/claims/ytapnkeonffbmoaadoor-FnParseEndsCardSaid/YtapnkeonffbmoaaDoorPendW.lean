/-
  The walk of the statement FnParseEnds: it answers true at every string. Condition: the library's four tables as their initialisers lay them.
-/
import Derived.Test.YtapnkeonffbmoaaDoorFld
import Derived.BigQuiet
namespace Go.Proofs.YtapnkeonffbmoaaDoor.Tx
open Go Go.RowKit

/-- Ended, at a text that ends as it should -/
theorem ended_fix (s : ByteArray) (W : World) (hs : s.size ≤ 4294967296) (h : ended s.data.toList = s.data.toList) : Calls Tryd.prog 21 #[.string s] W fun e w' => e = .returned (.string s) ∧ w' = W :=
  (ended_any s W hs).mono fun _ _ ⟨h1, h2⟩ => ⟨by rw [h1, endedS, h, S_of], h2.symm⟩

set_option maxHeartbeats 3200000 in
set_option maxRecDepth 100000 in
theorem pend_walk (s : ByteArray) (w : World) (hT : Tabs w) : Calls Tryd.prog 8 #[.string s] w fun e w' => e = .returned (.bool true) ∧ Below w.heap.size w w' := by
  by_cases hs : (2147483647 : Int) < (s.size : Int)
  · go_enter Tryd.func8, Tryd.ntmps8
    go_wp2
    go_ret
    exact ⟨rfl, Below.refl _ _⟩
  · have hp := law_parseEnds s.data.toList
    have hsz := law_parseSize s.data.toList
    rw [size_list] at hsz
    obtain ⟨c, hc⟩ : ∃ c, c = S (parse s.data.toList).1 := ⟨_, rfl⟩
    obtain ⟨fs, hfs⟩ : ∃ fs, fs = (parse s.data.toList).2 := ⟨_, rfl⟩
    have hcs : c.size ≤ 4294967296 := by rw [hc, S_size]; omega
    have HN := Lib.hid (p := fs.length ≤ 4294967296) (by
      have := files_count s.data.toList
      rw [size_list] at this
      rw [hfs]
      omega)
    have HD := Lib.hid (p := ∀ f ∈ fs, f.2.length ≤ 4294967296) (by
      intro f hf
      rw [hfs] at hf
      have h1 : f.2.length ≤ ((parse s.data.toList).2.map (·.2)).flatten.length := by
        clear hsz
        generalize (parse s.data.toList).2 = gs at hf
        induction gs with
        | nil => cases hf
        | cons g r ih =>
          rw [List.map_cons, List.flatten_cons, List.length_append]
          rcases List.mem_cons.1 hf with rfl | hf
          · omega
          · have := ih hf; omega
      have h2 := congrArg List.length (body_others nm (lines s.data.toList))
      rw [List.length_append] at h2
      have h3 := filter_flat_le (fun x => (nm x).isEmpty) (lines s.data.toList)
      rw [lines_flatten] at h3
      have h4 := ended_length s.data.toList
      rw [size_list] at h4
      have h5 : ((parse s.data.toList).2.map (·.2)).flatten.length = ((body nm (lines s.data.toList)).2.map (·.2)).flatten.length := rfl
      omega)
    have HEC := Lib.hid (p := ended c.data.toList = c.data.toList) (by rw [hc, S_data]; exact hp.1)
    have HEF := Lib.hid (p := ∀ f ∈ fs, ended f.2 = f.2) (by rw [hfs]; exact hp.2)
    have HC := Lib.hid hc
    have HFS := Lib.hid hfs
    clear hp hc hfs hsz
    go_enter Tryd.func8, Tryd.ntmps8
    go_wp2_with fail
    refine (implParse_any s w (by omega) hT).mono ?_
    rw [← HC.out, ← HFS.out]
    rintro e w3 ⟨B, n, cp, rfl, ha, hb3⟩
    have hsz3 := hb3.size
    have hn64 : n ≤ 4294967296 := by rw [ha.1.out]; exact HN.out
    go_wp2_with fail
    go_loopw [14] (fun i wr => ∃ (j : Nat), j ≤ n ∧ i = .int .i64 j ∧ wr.cell? ⟨w3.heap.size, 0, none⟩ = some (.string c) ∧ w3.heap.size < wr.heap.size ∧ Below w.heap.size w wr ∧ Below w3.heap.size w3 wr) (fun i _ => n - (intOf i).toNat)
    case atStart =>
      refine ⟨0, by omega, rfl, ?_, by simp, hb3.alloc hsz3 _, (Below.refl _ _).alloc (Nat.le_refl _) _⟩
      rw [Lib.cell_of_heap (heap_alloc_new w3 _)]
      rfl
    case round =>
      obtain ⟨j, hj, rfl, hcc, hlt3, hb4, hb34⟩ := hrel
      have hsz4 := hb4.size
      by_cases hlj : j < n
      · have hjl : j < fs.length := by rw [← ha.1.out]; exact hlj
        obtain ⟨b', off', s', t', rfl, hbw', hc1', hc2', hs', ht'⟩ := row_file (ha.2.2.below hb34) hjl
        have hts : t'.size ≤ 4294967296 := by rw [← size_list, ht']; exact HD.out _ (List.getElem_mem hjl)
        have HE := Lib.hid (p := ended t'.data.toList = t'.data.toList) (by rw [ht']; exact HEF.out _ (List.getElem_mem hjl))
        have hk0 := fun o => cell_one hcc o
        clear hs' ht'
        go_wp2_with fail
        go_quiet ((go_at_call 21; exact Calls.quiet_of_same (ended_fix t' _ hts HE.out)))
        go_wp2
        go_roundw
        case rel =>
          refine ⟨j + 1, by omega, by go_num, ?_, ?_, below_drewN (hb4.alloc hsz4 _) _, below_drewN (hb34.alloc hb34.size _) _⟩
          · exact hk0 _
          · show _ < (wr.alloc _).heap.size
            simp
            omega
        case measure => simp [intOf]; omega
      · go_wp2_with fail
        go_region_with (first
          | (go_at_call 21; refine (ended_fix c _ hcs HEC.out).mono ?_; rintro e w' ⟨rfl, rfl⟩)
          | (go_at_call 19; refine (reads_any _ (hT.below (by exact hb4.drew))).mono ?_; rintro e w5 ⟨rfl, hb5'⟩; have hb5 : Below w.heap.size w w5 := hb4.drew.trans (hb5'.mono hsz4)))
        all_goals
          go_wp2
          go_ret
          exact ⟨rfl, hb5⟩
end Go.Proofs.YtapnkeonffbmoaaDoor.Tx
