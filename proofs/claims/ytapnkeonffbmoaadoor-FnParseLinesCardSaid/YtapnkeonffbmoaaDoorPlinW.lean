/-
  The walk of the statement FnParseLines: it answers true at every string. Condition: the library's four tables as their initialisers lay them.
-/
import Derived.Test.YtapnkeonffbmoaaDoorFld
namespace Go.Proofs.YtapnkeonffbmoaaDoor.Tx
open Go Go.RowKit

set_option maxHeartbeats 1600000 in
set_option maxRecDepth 100000 in
theorem plin_walk (s : ByteArray) (w : World) (hT : Tabs w) : Calls Tryd.prog 10 #[.string s] w fun e w' => e = .returned (.bool true) ∧ Below w.heap.size w w' := by
  by_cases hs : (2147483647 : Int) < (s.size : Int)
  · go_enter Tryd.func10, Tryd.ntmps10
    go_wp2
    go_ret
    exact ⟨rfl, Below.refl _ _⟩
  · cases hu : plainB s
    · go_enter Tryd.func10, Tryd.ntmps10
      go_wp2_with fail
      refine (plain_any s w (by omega)).mono ?_
      rw [hu]
      rintro e w1 ⟨rfl, hb1⟩
      go_wp2
      go_ret
      exact ⟨rfl, hb1⟩
    · obtain ⟨ls, hls⟩ : ∃ ls, ls = lines s.data.toList := ⟨_, rfl⟩
      have hp := law_parseLines hu
      rw [← hls] at hp
      have hfl := lines_flat_le hls
      have hll := lines_le hls
      have hlen := fun (k : Nat) (hk : k < ls.length) => line_len hls hk
      have HN := Lib.hid hlen
      have HLS := Lib.hid hls
      have HP := Lib.hid hp
      have HFL := Lib.hid (p := ∀ k, ((ls.take k).filter fun x => (mk x).isEmpty).flatten.length ≤ s.size + 1) (fun k => Nat.le_trans (filter_flat_le _ _) (Nat.le_trans (take_flat_le ls k) hfl))
      have HFE := Lib.hid (p := (ls.filter fun x => (mk x).isEmpty).flatten.length ≤ s.size + 1) (Nat.le_trans (filter_flat_le _ _) hfl)
      clear hls hlen hp hfl
      have hL := fun W => Lib.hid (lines_as s W (by omega) ls HLS)
      go_enter Tryd.func10, Tryd.ntmps10
      go_wp2_with fail
      refine (plain_any s w (by omega)).mono ?_
      rw [hu]
      rintro e w1 ⟨rfl, hb1⟩
      go_wp2_with fail
      refine (hL _).out.mono ?_
      rintro e w2 ⟨A, cap, rfl, hcap, hrow, hb2'⟩
      have hb2 := hb1.trans (hb2'.mono hb1.size)
      clear hL hb2'
      go_wp2_with fail
      go_loop [3, 19] (fun v i => ∃ (k : Nat) (o : ByteArray), k ≤ ls.length ∧ i = .int .i64 k ∧ v = .string o ∧ Hid (o.data.toList = ((ls.take k).filter fun x => (mk x).isEmpty).flatten)) (fun _ i => ls.length - (intOf i).toNat)
      case atStart => exact ⟨0, ⟨#[]⟩, by omega, rfl, rfl, rfl⟩
      case round =>
        obtain ⟨k, o, hk, rfl, rfl, HO⟩ := hrel
        have hos : o.size ≤ s.size + 1 := by
          rw [← size_list, HO.out]
          exact HFL.out k
        by_cases hlt : k < ls.length
        · obtain ⟨b, off, t, rfl, hb, hc, ht⟩ := row_string hrow hlt
          have hn := HN.out k hlt
          rw [← ht, size_list] at hn
          have HT := Lib.hid ht
          clear ht
          cases hm : (mkS t).toList.isEmpty
          · have HE := Lib.hid (mkS_no hm)
            go_wp2_with (go_at_call 15; refine (marker_any _ _ (by omega) (by omega)).mono ?_; rintro e w' ⟨rfl, rfl⟩)
            go_round
            case rel => exact ⟨k + 1, o, by omega, by go_num, rfl, by
              refine Lib.hid ?_
              rw [filter_take_succ hlt, ← HT.out, HE.out, HO.out]
              simp⟩
            case measure => simp [intOf]; omega
          · have HE := Lib.hid (mkS_yes hm)
            go_wp2_with (go_at_call 15; refine (marker_any _ _ (by omega) (by omega)).mono ?_; rintro e w' ⟨rfl, rfl⟩)
            go_round
            case rel => exact ⟨k + 1, o ++ t, by omega, by go_num, rfl, by
              refine Lib.hid ?_
              rw [filter_take_succ hlt, ← HT.out, HE.out, append_list, HO.out]
              simp⟩
            case measure => simp [intOf]; omega
        · have ho := HO.out
          rw [filter_take_all hlt, ← HP.out] at ho
          have HOE := Lib.hid ho
          clear ho
          obtain ⟨c, hc⟩ : ∃ c, c = S (parse s.data.toList).1 := ⟨_, rfl⟩
          obtain ⟨fs, hfs⟩ : ∃ fs, fs = (parse s.data.toList).2 := ⟨_, rfl⟩
          have htot : ∀ k, c.size + ((fs.take k).map (·.2)).flatten.length ≤ s.size + 1 := fun k => by
            have h1 := HFE.out
            rw [← HP.out, List.length_append] at h1
            rw [hc, hfs, S_size]
            exact Nat.le_trans (Nat.add_le_add_left (texts_take_le _ k) _) h1
          have HTOT := Lib.hid htot
          have HC := Lib.hid hc
          have HFS := Lib.hid hfs
          clear hc hfs htot
          go_wp2_with fail
          refine (implParse_any s w2 (by omega) (hT.below hb2)).mono ?_
          rw [← HC.out, ← HFS.out]
          rintro e w3 ⟨B, n, cp, rfl, ha, hb3'⟩
          have hb3 := hb2.trans (hb3'.mono hb2.size)
          have hsz3 := hb3.size
          have hn64 : n ≤ 4294967296 := by
            rw [ha.1.out, HFS.out]
            have := files_count s.data.toList
            rw [size_list] at this
            omega
          go_wp2_with fail
          go_loopw [7, 37] (fun v i wr => ∃ (j : Nat) (p : ByteArray), j ≤ n ∧ i = .int .i64 j ∧ v = .string p ∧ Hid (p.data.toList = c.data.toList ++ ((fs.take j).map (·.2)).flatten) ∧ Below w.heap.size w wr ∧ Below w3.heap.size w3 wr) (fun _ i _ => n - (intOf i).toNat)
          case atStart => exact ⟨0, c, by omega, rfl, rfl, by simp [Hid], hb3.alloc hsz3 _, (Below.refl _ _).alloc (Nat.le_refl _) _⟩
          case round =>
            obtain ⟨j, p, hj, rfl, rfl, HPP, hb4, hb34⟩ := hrel
            have hps : p.size ≤ s.size + 1 := by
              rw [← size_list, HPP.out, List.length_append, size_list]
              exact HTOT.out j
            have hsz4 := hb4.size
            by_cases hlj : j < n
            · have hjl : j < fs.length := by rw [← ha.1.out]; exact hlj
              obtain ⟨b', off', s', t', rfl, hbw', hc1', hc2', hs', ht'⟩ := row_file (ha.2.2.below hb34) hjl
              have hts : t'.size ≤ s.size + 1 := by
                have h1 := HTOT.out (j + 1)
                rw [texts_take_succ hjl, List.length_append] at h1
                rw [← size_list, ht']
                omega
              have HT' := Lib.hid ht'
              clear hs' ht'
              go_wp2
              go_roundw
              case rel =>
                refine ⟨j + 1, p ++ t', by omega, by go_num, rfl, ?_, hb4.alloc hsz4 _, hb34.alloc hb34.size _⟩
                refine Lib.hid ?_
                rw [texts_take_succ hjl, append_list, HPP.out, HT'.out, List.append_assoc]
              case measure => simp [intOf]; omega
            · obtain rfl : p = o := ba_eq (by
                rw [HPP.out, HOE.out, List.take_of_length_le (by rw [← ha.1.out]; omega), HFS.out, HC.out, S_data])
              go_wp2_with fail
              refine (reads_any _ (hT.below hb4)).mono ?_
              rintro e w5 ⟨rfl, hb5⟩
              go_wp2
              go_ret
              exact ⟨rfl, hb4.trans (hb5.mono hb4.size)⟩
end Go.Proofs.YtapnkeonffbmoaaDoor.Tx
