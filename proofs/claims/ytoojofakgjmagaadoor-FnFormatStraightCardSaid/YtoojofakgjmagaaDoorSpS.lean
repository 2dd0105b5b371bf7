/-
  The walk of the reference's Straight: it answers as the plain layer's Bool of that name. Condition: strings of less than 2^32 bytes.
-/
import Derived.Test.YtoojofakgjmagaaDoorSpP
namespace Go.Proofs.YtoojofakgjmagaaDoor.Tx
open Go Go.RowKit

theorem mkS_le (t : ByteArray) : (mkS t).size ≤ t.size := by
  show (S (mk t.data.toList)).size ≤ _
  rw [S_size]
  show (nameWith strip t.data.toList.dropLast).length ≤ _
  unfold nameWith
  split
  · obtain ⟨a, b, h, _, _⟩ := strip_split (inner t.data.toList.dropLast)
    have h1 : (strip (inner t.data.toList.dropLast)).length ≤ (inner t.data.toList.dropLast).length := by
      conv => rhs; rw [h]
      simp
      omega
    have h2 : (inner t.data.toList.dropLast).length ≤ t.data.toList.dropLast.length := by
      unfold inner
      simp
      omega
    have h3 : t.data.toList.dropLast.length = t.data.toList.length - 1 := by simp
    have h4 := size_list t
    omega
  · simp
theorem straight_eq (t : ByteArray) : (t.toList == ((⟨#[45, 45, 32]⟩ : ByteArray) ++ mkS t ++ ⟨#[32, 45, 45, 10]⟩).toList) = (t.data.toList == mkLine (mk t.data.toList)) := by
  rw [Lib.toList_data, Lib.toList_data]
  simp [mkLine, pre, suf]
theorem ended_same (s : ByteArray) : ((endedS s).toList == s.toList) = (ended s.data.toList == s.data.toList) := by
  rw [Lib.toList_data, Lib.toList_data]
  unfold endedS
  rw [S_data]

set_option maxHeartbeats 1600000 in
set_option maxRecDepth 100000 in
theorem straight_any (s : ByteArray) (w : World) (hs : s.size ≤ 4294967295) : Calls Tryd.prog 17 #[.string s] w fun e w' => e = .returned (.bool (straightB s)) ∧ Below w.heap.size w w' := by
  obtain ⟨ls, hls⟩ : ∃ ls, ls = lines s.data.toList := ⟨_, rfl⟩
  have hll := lines_le hls
  have hlen := fun (k : Nat) (hk : k < ls.length) => line_len hls hk
  have HN := Lib.hid hlen
  have HLS := Lib.hid hls
  clear hls hlen
  have hL := Lib.hid (lines_as s w (by omega) ls HLS)
  go_enter Tryd.func17, Tryd.ntmps17
  go_wp2_with fail
  refine hL.out.mono ?_
  rintro e w1 ⟨A, cap, rfl, hcap, hrow, hb1⟩
  clear hL
  go_wp2
  go_loop [9] (fun i => ∃ k : Nat, k ≤ ls.length ∧ i = .int .i64 k ∧ (ls.take k).all straightLine = true) (fun i => ls.length - (intOf i).toNat)
  case atStart => exact ⟨0, by omega, rfl, by simp⟩
  case round =>
    obtain ⟨k, hk, rfl, hall⟩ := hrel
    have HA := Lib.hid hall
    clear hall
    by_cases hlt : k < ls.length
    · obtain ⟨b, o, t, rfl, hb, hc, ht⟩ := row_string hrow hlt
      have hn := HN.out k hlt
      rw [← ht, size_list] at hn
      have HT := Lib.hid ht
      clear ht
      have hms := mkS_le t
      cases hm : (mkS t).toList.isEmpty
      · have HM := Lib.hid (mkS_no hm)
        have HE := Lib.hid (straight_eq t)
        cases hcmp : (t.toList == ((⟨#[45, 45, 32]⟩ : ByteArray) ++ mkS t ++ ⟨#[32, 45, 45, 10]⟩).toList)
        · have HF := Lib.hid (p := straightLine t.data.toList = false) (by unfold straightLine; rw [HM.out, ← HE.out, hcmp]; rfl)
          go_wp2_with (go_at_call 29; refine (marker_any _ _ (by omega) (by omega)).mono ?_; rintro e w' ⟨rfl, rfl⟩)
          go_ret
          refine ⟨ret_eq (congrArg Value.bool ?_), hb1⟩
          rw [straightB, straightL, ← HLS.out, all_false hlt (by rw [← HT.out]; exact HF.out)]
          rfl
        · have HF := Lib.hid (p := straightLine t.data.toList = true) (by unfold straightLine; rw [← HE.out, hcmp, Bool.or_true])
          go_wp2_with (go_at_call 29; refine (marker_any _ _ (by omega) (by omega)).mono ?_; rintro e w' ⟨rfl, rfl⟩)
          go_round
          case rel => exact ⟨k + 1, by omega, by go_num, all_take_succ hlt HA.out (by rw [← HT.out]; exact HF.out)⟩
          case measure => simp [intOf]; omega
      · have HM := Lib.hid (p := straightLine t.data.toList = true) (by unfold straightLine; rw [mkS_yes hm]; rfl)
        go_wp2_with (go_at_call 29; refine (marker_any _ _ (by omega) (by omega)).mono ?_; rintro e w' ⟨rfl, rfl⟩)
        go_round
        case rel => exact ⟨k + 1, by omega, by go_num, all_take_succ hlt HA.out (by rw [← HT.out]; exact HM.out)⟩
        case measure => simp [intOf]; omega
    · have HAL := Lib.hid (all_of_take hlt HA.out)
      have HEQ := Lib.hid (ended_same s)
      cases hcmp : ((endedS s).toList == s.toList)
      · have HF := Lib.hid (p := straightB s = false) (by unfold straightB straightL; rw [← HEQ.out, hcmp]; simp)
        go_wp2_with (go_at_call 20; refine (ended_any _ _ (by omega)).mono ?_; rintro e w' ⟨rfl, rfl⟩)
        go_ret
        exact ⟨ret_eq (congrArg Value.bool HF.out.symm), hb1⟩
      · have HF := Lib.hid (p := straightB s = plainB s) (by unfold straightB straightL plainB; rw [← HEQ.out, hcmp, ← HLS.out, HAL.out]; simp)
        go_wp2_with (first | (go_at_call 20; refine (ended_any _ _ (by omega)).mono ?_; rintro e w' ⟨rfl, rfl⟩) | (go_at_call 30; refine (plain_any s _ hs).mono ?_; rintro e w2 ⟨rfl, hb2⟩))
        go_ret
        exact ⟨ret_eq (congrArg Value.bool HF.out.symm), hb1.trans (hb2.mono hb1.size)⟩
end Go.Proofs.YtoojofakgjmagaaDoor.Tx
