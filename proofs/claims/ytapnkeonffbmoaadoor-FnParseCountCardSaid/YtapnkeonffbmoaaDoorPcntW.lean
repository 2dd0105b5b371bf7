/-
  The walk of the statement FnParseCount: it answers true at every string. Condition: the library's four tables as their initialisers lay them.
-/
import Derived.Test.YtapnkeonffbmoaaDoorFld
namespace Go.Proofs.YtapnkeonffbmoaaDoor.Tx
open Go Go.RowKit

set_option maxHeartbeats 1600000 in
set_option maxRecDepth 100000 in
theorem pcnt_walk (s : ByteArray) (w : World) (hT : Tabs w) : Calls Tryd.prog 7 #[.string s] w fun e w' => e = .returned (.bool true) ∧ Below w.heap.size w w' := by
  by_cases hs : (2147483647 : Int) < (s.size : Int)
  · go_enter Tryd.func7, Tryd.ntmps7
    go_wp2
    go_ret
    exact ⟨rfl, Below.refl _ _⟩
  · cases hu : plainB s
    · go_enter Tryd.func7, Tryd.ntmps7
      go_wp2_with fail
      refine (plain_any s w (by omega)).mono ?_
      rw [hu]
      rintro e w1 ⟨rfl, hb1⟩
      go_wp2
      go_ret
      exact ⟨rfl, hb1⟩
    · obtain ⟨ls, hls⟩ : ∃ ls, ls = lines s.data.toList := ⟨_, rfl⟩
      have hp := law_parseCount hu
      rw [← hls] at hp
      have hll := lines_le hls
      have hlen := fun (k : Nat) (hk : k < ls.length) => line_len hls hk
      have HN := Lib.hid hlen
      have HLS := Lib.hid hls
      have HP := Lib.hid hp
      clear hls hlen hp
      have hfd := field_files
      have hL := fun W => Lib.hid (lines_as s W (by omega) ls HLS)
      go_enter Tryd.func7, Tryd.ntmps7
      go_wp2_with fail
      refine (plain_any s w (by omega)).mono ?_
      rw [hu]
      rintro e w1 ⟨rfl, hb1⟩
      go_wp2_with fail
      refine (hL _).out.mono ?_
      rintro e w2 ⟨A, cap, rfl, hcap, hrow, hb2'⟩
      have hb2 := hb1.trans (hb2'.mono hb1.size)
      clear hL hb2'
      go_wp2_with fail
      go_loop [3, 15] (fun c i => ∃ k : Nat, k ≤ ls.length ∧ i = .int .i64 k ∧ c = .int .i64 (((ls.take k).filter fun x => !(mk x).isEmpty).length : Nat)) (fun _ i => ls.length - (intOf i).toNat)
      case atStart => exact ⟨0, by omega, rfl, by simp⟩
      case round =>
        obtain ⟨k, hk, rfl, hc⟩ := hrel
        have hle := filter_take_le (fun x => !(mk x).isEmpty) ls k
        obtain ⟨m, hm⟩ : ∃ m, m = ((ls.take k).filter fun x => !(mk x).isEmpty).length := ⟨_, rfl⟩
        rw [← hm] at hle hc
        have HM := Lib.hid hm
        subst hc
        clear hm
        by_cases hlt : k < ls.length
        · obtain ⟨b, o, t, rfl, hb, hc, ht⟩ := row_string hrow hlt
          have hn := HN.out k hlt
          rw [← ht, size_list] at hn
          have HT := Lib.hid ht
          clear ht
          cases hm : (mkS t).toList.isEmpty
          · have HE := Lib.hid (mkS_no hm)
            go_wp2_with (go_at_call 15; refine (marker_any _ _ (by omega) (by omega)).mono ?_; rintro e w' ⟨rfl, rfl⟩)
            go_round
            case rel => exact ⟨k + 1, by omega, by go_num, by
              rw [filter_take_succ hlt, ← HT.out, HE.out]
              simp only [Bool.not_false, if_true, List.length_append, ← HM.out]
              go_num⟩
            case measure => simp [intOf]; omega
          · have HE := Lib.hid (mkS_yes hm)
            go_wp2_with (go_at_call 15; refine (marker_any _ _ (by omega) (by omega)).mono ?_; rintro e w' ⟨rfl, rfl⟩)
            go_round
            case rel => exact ⟨k + 1, by omega, by go_num, by
              rw [filter_take_succ hlt, ← HT.out, HE.out, HM.out]
              simp⟩
            case measure => simp [intOf]; omega
        · have hme := HM.out
          rw [filter_take_all hlt, ← HP.out] at hme
          have HME := Lib.hid hme
          clear hme
          go_wp2_with fail
          refine (implParse_any s w2 (by omega) (hT.below hb2)).mono ?_
          rintro e w3 ⟨B, n, cp, rfl, ha, hb3'⟩
          have hb3 := hb2.trans (hb3'.mono hb2.size)
          obtain rfl : n = m := by rw [ha.1.out, HME.out]
          clear ha
          go_wp2_with fail
          refine (reads_any w3 (hT.below hb3)).mono ?_
          rintro e w4 ⟨rfl, hb4⟩
          go_wp2
          go_ret
          exact ⟨rfl, hb3.trans (hb4.mono hb3.size)⟩
end Go.Proofs.YtapnkeonffbmoaaDoor.Tx
