/-
  The walk of the statement FnExactFind: it answers true at every string. Condition: the library's four tables as their initialisers lay them.
-/
import Derived.Test.YtapnkeonffbmoaaDoorFld
import Derived.Test.YtapnkeonffbmoaaDoorImpM
namespace Go.Proofs.YtapnkeonffbmoaaDoor.Tx
open Go Go.RowKit

theorem find_at {l : Bs} {ls : List Bs} {k : Nat} (h : ls = lines l) (hk : k < ls.length) (hb : ∀ x ∈ ls.take k, mk x = []) (hm : mk ls[k] ≠ []) : find mk l = ((ls.take k).flatten, mk ls[k], l.drop ((ls.take k).flatten.length + ls[k].length)) := by
  have e : lines l = ls.take k ++ (ls[k] :: ls.drop (k + 1)) := by
    rw [← h, ← List.drop_eq_getElem_cons hk, List.take_append_drop]
  unfold find
  rw [e, scan_bare _ _ hb]
  simp [scan, hm]
theorem find_none {l : Bs} {ls : List Bs} (h : ls = lines l) (hb : ∀ x ∈ ls, mk x = []) : find mk l = (ended l, [], []) := by
  have e : lines l = ls ++ [] := by rw [← h, List.append_nil]
  unfold find
  rw [e, scan_bare _ _ hb]
  simp [scan]
theorem find_x : (find nm (⟨#[120, 10, 45, 45, 32, 97, 32, 45, 45, 10, 98]⟩ : ByteArray).data.toList).2.1 = [97] := by
  have e : lines (⟨#[120, 10, 45, 45, 32, 97, 32, 45, 45, 10, 98]⟩ : ByteArray).data.toList = [[120, 10], mkLine [97], [98, 10]] := by decide
  have h1 : nm [120, 10] = [] := nmWith_not_pre trim (by decide)
  have h2 : nm (mkLine [97]) = [97] := by rw [nm_mkLine, trim_named named_a]
  unfold find
  rw [e]
  simp [scan, h1, h2]
theorem drop_min (l : Bs) (a n : Nat) : (l.drop a).drop (min n (l.drop a).length) = l.drop (a + n) := by
  rw [List.drop_drop]
  rcases Nat.le_total n (l.drop a).length with h | h
  · rw [Nat.min_eq_left h]
  · rw [Nat.min_eq_right h]
    rw [List.length_drop] at h ⊢
    rw [List.drop_eq_nil_of_le (by omega), List.drop_eq_nil_of_le (by omega)]
theorem mem_bare_succ {ls : List Bs} {k : Nat} (hk : k < ls.length) (h : ∀ x ∈ ls.take k, mk x = []) (hx : mk ls[k] = []) : ∀ x ∈ ls.take (k + 1), mk x = [] := by
  rw [List.take_succ_eq_append_getElem hk]
  intro x hm
  rcases List.mem_append.1 hm with hm | hm
  · exact h x hm
  · simp at hm; rw [hm]; exact hx
theorem flat_take_succ {ls : List Bs} {k : Nat} (hk : k < ls.length) : (ls.take (k + 1)).flatten = (ls.take k).flatten ++ ls[k] := by
  rw [List.take_succ_eq_append_getElem hk, List.flatten_append]
  simp

set_option maxHeartbeats 3200000 in
set_option maxRecDepth 100000 in
theorem pfi_walk (s : ByteArray) (w : World) (hT : Tabs w) : Calls Tryd.prog 4 #[.string s] w fun e w' => e = .returned (.bool true) ∧ Below w.heap.size w w' := by
  by_cases hs : (2147483647 : Int) < (s.size : Int)
  · go_enter Tryd.func4, Tryd.ntmps4
    go_wp2
    go_ret
    exact ⟨rfl, Below.refl _ _⟩
  · cases hu : plainB s
    · go_enter Tryd.func4, Tryd.ntmps4
      go_wp2_with fail
      refine (implFind_any ⟨#[120, 10, 45, 45, 32, 97, 32, 45, 45, 10, 98]⟩ w (by decide) hT).mono ?_
      rintro e w1 ⟨a0, x0, b0, rfl, -, HX, -, -, -, hb1⟩
      obtain rfl : x0 = ⟨#[97]⟩ := ba_eq (by rw [HX.out]; exact find_x)
      go_wp2_with fail
      refine (plain_any s w1 (by omega)).mono ?_
      rw [hu]
      rintro e w2 ⟨rfl, hb2⟩
      go_wp2
      go_ret
      exact ⟨rfl, hb1.trans (hb2.mono hb1.size)⟩
    · obtain ⟨ls, hls⟩ : ∃ ls, ls = lines s.data.toList := ⟨_, rfl⟩
      have hp := law_exactFind hu
      have hfl := lines_flat_le hls
      have hll := lines_le hls
      have hlen := fun (k : Nat) (hk : k < ls.length) => line_len hls hk
      have HN := Lib.hid hlen
      have HLS := Lib.hid hls
      have HP := Lib.hid hp
      have HFL := Lib.hid (p := ∀ k, (ls.take k).flatten.length ≤ s.size + 1) (fun k => Nat.le_trans (take_flat_le ls k) hfl)
      clear hls hlen hp hfl
      have hL := fun W => Lib.hid (lines_as s W (by omega) ls HLS)
      go_enter Tryd.func4, Tryd.ntmps4
      go_wp2_with fail
      refine (implFind_any ⟨#[120, 10, 45, 45, 32, 97, 32, 45, 45, 10, 98]⟩ w (by decide) hT).mono ?_
      rintro e w1 ⟨a0, x0, b0, rfl, -, HX, -, -, -, hb1⟩
      obtain rfl : x0 = ⟨#[97]⟩ := ba_eq (by rw [HX.out]; exact find_x)
      go_wp2_with fail
      refine (plain_any s w1 (by omega)).mono ?_
      rw [hu]
      rintro e w2 ⟨rfl, hb2'⟩
      have hb2 := hb1.trans (hb2'.mono hb1.size)
      go_wp2_with fail
      refine (implFind_any s w2 (by omega) (hT.below hb2)).mono ?_
      rw [HP.out]
      rintro e w3 ⟨a, x, b, rfl, HA1, HX1, HB1, has, hbs, hb3'⟩
      have hb3 := hb2.trans (hb3'.mono hb2.size)
      go_wp2_with fail
      refine (hL _).out.mono ?_
      rintro e w4 ⟨A, cap, rfl, hcap, hrow, hb4'⟩
      have hb4 := hb3.trans (hb4'.mono hb3.size)
      clear hL hb4' hb3' hb2'
      go_wp2_with fail
      go_loop [9, 10, 37] (fun v9 v10 i => ∃ (k : Nat) (o r : ByteArray), k ≤ ls.length ∧ i = .int .i64 k ∧ v9 = .string o ∧ v10 = .string r ∧ Hid (o.data.toList = (ls.take k).flatten) ∧ Hid (r.data.toList = s.data.toList.drop (ls.take k).flatten.length) ∧ Hid (∀ x ∈ ls.take k, mk x = [])) (fun _ _ i => ls.length - (intOf i).toNat)
      case atStart => exact ⟨0, ⟨#[]⟩, s, by omega, rfl, rfl, rfl, rfl, by simp [Hid], by simp [Hid]⟩
      case round =>
        obtain ⟨k, o, r, hk, rfl, rfl, rfl, HO, HR, HBR⟩ := hrel
        have hos : o.size ≤ s.size + 1 := by rw [← size_list, HO.out]; exact HFL.out k
        have hrs : r.size ≤ s.size := by rw [← size_list, HR.out, List.length_drop, size_list]; omega
        by_cases hlt : k < ls.length
        · obtain ⟨b', off, t, rfl, hb', hc', ht⟩ := row_string hrow hlt
          have hn := HN.out k hlt
          rw [← ht, size_list] at hn
          have HT := Lib.hid ht
          clear ht
          cases hm : (mkS t).toList.isEmpty
          · have hE := mkS_no hm
            have hfa := find_at HLS.out hlt HBR.out (by rw [← HT.out]; simpa using hE)
            rw [← HT.out] at hfa
            obtain rfl : o = a := ba_eq (by rw [HO.out, HA1.out, hfa])
            obtain rfl : x = mkS t := ba_eq (by rw [HX1.out, hfa, mkS_list])
            have hbl : b.data.toList = r.data.toList.drop (min t.data.toList.length r.data.toList.length) := by
              rw [HB1.out, hfa, HR.out, drop_min]
            have HBL := Lib.hid hbl
            clear hbl hfa hE
            have hbb : (b.toList == (r.extract (min (t.size : Int) (r.size : Int)).toNat r.size).toList) = true := by
              rw [show (min (t.size : Int) (r.size : Int)).toNat = min t.size r.size by omega, Lib.toList_data, Lib.toList_data, HBL.out, extract_list, List.take_of_length_le (by rw [List.length_drop, size_list]; omega), size_list, size_list]
              simp
            go_wp2_with (go_at_call 15; refine (marker_any _ _ (by omega) (by omega)).mono ?_; rintro e w' ⟨rfl, rfl⟩)
            go_ret
            exact ⟨rfl, hb4⟩
          · have HE := Lib.hid (p := mk ls[k] = []) (by rw [← HT.out]; simpa using mkS_yes hm)
            go_wp2_with (go_at_call 15; refine (marker_any _ _ (by omega) (by omega)).mono ?_; rintro e w' ⟨rfl, rfl⟩)
            go_round
            case rel =>
              refine ⟨k + 1, o ++ t, r.extract (min (t.size : Int) (r.size : Int)).toNat r.size, by omega, by go_num, rfl, rfl, Lib.hid ?_, Lib.hid ?_, Lib.hid (mem_bare_succ hlt HBR.out HE.out)⟩
              · rw [append_list, HO.out, HT.out, flat_take_succ hlt]
              · rw [flat_take_succ hlt, List.length_append, ← drop_min, ← HR.out, ← HT.out, size_list, size_list, show (min (t.size : Int) (r.size : Int)).toNat = min t.size r.size by omega, extract_list, List.take_of_length_le (by rw [List.length_drop, size_list]; omega)]
            case measure => simp [intOf]; omega
        · have hke : ls.take k = ls := List.take_of_length_le (by omega)
          have hfn := find_none HLS.out (by rw [← hke]; exact HBR.out)
          obtain rfl : o = a := ba_eq (by rw [HO.out, HA1.out, hfn, hke, HLS.out, lines_flatten])
          obtain rfl : x = ⟨#[]⟩ := ba_eq (by rw [HX1.out, hfn])
          obtain rfl : b = ⟨#[]⟩ := ba_eq (by rw [HB1.out, hfn])
          clear hke hfn
          go_wp2
          go_ret
          exact ⟨rfl, hb4⟩
end Go.Proofs.YtapnkeonffbmoaaDoor.Tx
