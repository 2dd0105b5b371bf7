/-
  The walk of the statement FnParseNames: it answers true at every string. Condition: the library's four tables as their initialisers lay them.
-/
import Derived.Test.YtmogecodjiofeaaDoorFld
import Derived.BigQuiet
namespace Go.Proofs.YtmogecodjiofeaaDoor.Tx
open Go Go.RowKit

/-- Strip, at a text that has no white space around it -/
theorem strip_fix (s : ByteArray) (W : World) (hs : s.size ≤ 4294967296) (h : strip s.data.toList = s.data.toList) : Calls Tryd.prog 16 #[.string s] W fun e w' => e = .returned (.string s) ∧ w' = W :=
  (strip_any s W hs).mono fun _ _ ⟨h1, h2⟩ => ⟨by rw [h1, stripS, h, S_of], h2.symm⟩
theorem size_mem : ∀ {fs : List (Bs × Bs)} {f : Bs × Bs}, f ∈ fs → f.2.length + f.1.length + 6 ≤ (fs.map fun f => f.2.length + f.1.length + 6).sum
  | g :: r, f, h => by
    rw [List.map_cons, List.sum_cons]
    rcases List.mem_cons.1 h with rfl | h
    · omega
    · have := size_mem h
      omega

set_option maxHeartbeats 3200000 in
set_option maxRecDepth 100000 in
theorem pnam_walk (s : ByteArray) (w : World) (hT : Tabs w) : Calls Tryd.prog 4 #[.string s] w fun e w' => e = .returned (.bool true) ∧ Below w.heap.size w w' := by
  by_cases hs : (2147483647 : Int) < (s.size : Int)
  · go_enter Tryd.func4, Tryd.ntmps4
    go_wp2
    go_ret
    exact ⟨rfl, Below.refl _ _⟩
  · have hp := law_parseNames s.data.toList
    have hsz := law_parseSize s.data.toList
    rw [size_list] at hsz
    obtain ⟨fs, hfs⟩ : ∃ fs, fs = (parse s.data.toList).2 := ⟨_, rfl⟩
    have HN := Lib.hid (p := fs.length ≤ 4294967296) (by
      have := files_count s.data.toList
      rw [size_list] at this
      rw [hfs]
      omega)
    have HD := Lib.hid (p := ∀ f ∈ fs, f.1.length ≤ 4294967296) (by
      intro f hf
      rw [hfs] at hf
      have := size_mem hf
      omega)
    have HP := Lib.hid (p := ∀ f ∈ fs, f.1 ≠ [] ∧ strip f.1 = f.1 ∧ (10 : UInt8) ∉ f.1) (by rw [hfs]; exact hp)
    have HFS := Lib.hid hfs
    have hfd := field_files
    clear hp hfs hsz
    go_enter Tryd.func4, Tryd.ntmps4
    go_wp2_with fail
    refine (implParse_any s w (by omega) hT).mono ?_
    rw [← HFS.out]
    rintro e w3 ⟨B, n, cp, rfl, ha, hb3⟩
    have hsz3 := hb3.size
    have hn64 : n ≤ 4294967296 := by rw [ha.1.out]; exact HN.out
    go_wp2_with fail
    go_loopw [13] (fun i wr => ∃ (j : Nat), j ≤ n ∧ i = .int .i64 j ∧ Below w.heap.size w wr ∧ Below w3.heap.size w3 wr) (fun i _ => n - (intOf i).toNat)
    case atStart => exact ⟨0, by omega, rfl, hb3, Below.refl _ _⟩
    case round =>
      obtain ⟨j, hj, rfl, hb4, hb34⟩ := hrel
      have hsz4 := hb4.size
      by_cases hlj : j < n
      · have hjl : j < fs.length := by rw [← ha.1.out]; exact hlj
        obtain ⟨b', off', s', t', rfl, hbw', hc1', hc2', hs', ht'⟩ := row_file (ha.2.2.below hb34) hjl
        obtain ⟨q1, q2, q3⟩ := HP.out _ (List.getElem_mem hjl)
        rw [← hs'] at q1 q2 q3
        have hns : s'.size ≤ 4294967296 := by rw [← size_list, hs']; exact HD.out _ (List.getElem_mem hjl)
        have hne : s'.toList.isEmpty = false := by rw [Lib.toList_data]; simpa using q1
        have HST := Lib.hid q2
        have H10 := Lib.hid q3
        clear hs' ht' q1 q2 q3
        go_wp2_with fail
        go_quiet ((go_at_call 16; exact Calls.quiet_of_same (strip_fix s' _ hns HST.out)))
        go_wp2
        go_loop [5] (fun i => ∃ q : Nat, q ≤ s'.size ∧ i = .int .i64 q) (fun i => s'.size - (intOf i).toNat)
        case atStart => exact ⟨0, by omega, rfl⟩
        case round =>
          obtain ⟨q, hq, rfl⟩ := hrel
          by_cases hlq : q < s'.size
          · have h10 : ((s'[q].toNat : Int) == 10) = false := by
              have h1 : s'[q] ∈ s'.data.toList := by
                have : s'.data.toList[q]'(by rw [size_list]; exact hlq) = s'[q] := rfl
                rw [← this]
                exact List.getElem_mem _
              have h2 : s'[q] ≠ 10 := fun h => H10.out (h ▸ h1)
              have : ¬ s'[q].toNat = 10 := fun h => h2 (by rw [← UInt8.toNat_inj]; exact h)
              simp; omega
            go_wp2
            go_round
            case rel => exact ⟨q + 1, by omega, by go_num⟩
            case measure => simp [intOf]; omega
          · go_wp2
            go_roundw
            case rel => exact ⟨j + 1, by omega, by go_num, below_drewN (hb4.alloc hsz4 _) _, below_drewN (hb34.alloc hb34.size _) _⟩
            case measure => simp [intOf]; omega
      · go_wp2_with fail
        refine (reads_any _ (hT.below hb4)).mono ?_
        rintro e w5 ⟨rfl, hb5⟩
        go_wp2
        go_ret
        exact ⟨rfl, hb4.trans (hb5.mono hb4.size)⟩
end Go.Proofs.YtmogecodjiofeaaDoor.Tx
