/-
  The walk of the statement FnParseNoMarker: it answers true at every string. Condition: the library's four tables as their initialisers lay them.
-/
import Derived.Test.YtmogecodjiofeaaDoorFld
namespace Go.Proofs.YtmogecodjiofeaaDoor.Tx
open Go Go.RowKit

theorem pre_take {s : ByteArray} (h : pre <+: s.data.toList) : 3 ≤ s.size ∧ ((s.extract 0 3).toList == [45, 45, 32]) = true := by
  have h1 := List.isPrefixOf_iff_prefix.2 h
  rw [isPrefixOf_take, size_list] at h1
  simp only [Bool.and_eq_true, decide_eq_true_eq] at h1
  refine ⟨h1.1, ?_⟩
  rw [Lib.toList_data, extract_list, List.drop_zero, Nat.sub_zero]
  exact h1.2
theorem pre_take_no {s : ByteArray} (h : ¬ pre <+: s.data.toList) (h3 : 3 ≤ s.size) : ((s.extract 0 3).toList == [45, 45, 32]) = false := by
  have h1 : pre.isPrefixOf s.data.toList = false := by
    cases hp : pre.isPrefixOf s.data.toList with
    | false => rfl
    | true => exact absurd (List.isPrefixOf_iff_prefix.1 hp) h
  rw [isPrefixOf_take, size_list] at h1
  have h2 : decide (pre.length ≤ s.size) = true := by simp only [decide_eq_true_eq]; exact h3
  rw [h2, Bool.true_and] at h1
  rw [Lib.toList_data, extract_list, List.drop_zero, Nat.sub_zero]
  exact h1
theorem suf_drop {s : ByteArray} (h3 : 3 ≤ s.size) : ((s.extract (s.size - 3) s.size).toList == [32, 45, 45]) = suf.isSuffixOf s.data.toList := by
  rw [isSuffixOf_drop _ _ (by rw [size_list]; exact h3), Lib.toList_data, extract_list, size_list, List.take_of_length_le (by rw [List.length_drop, size_list]; omega)]
  rfl
/-- no newline so far -/
def free10 (c : UInt8) : Bool := !(c == 10)
theorem free_of {l : Bs} (h : l.all free10 = true) : (10 : UInt8) ∉ l := fun hm => by
  have := List.all_eq_true.1 h 10 hm
  cases this
theorem free_at {c : UInt8} (h : ((c.toNat : Int) == 10) = false) : free10 c = true := by
  unfold free10
  have : c ≠ 10 := by rintro rfl; cases h
  simpa using this

set_option maxHeartbeats 1600000 in
set_option maxRecDepth 100000 in
theorem pnm_walk (s : ByteArray) (w : World) (hT : Tabs w) : Calls Tryd.prog 6 #[.string s] w fun e w' => e = .returned (.bool true) ∧ Below w.heap.size w w' := by
  by_cases hs : (2147483647 : Int) < (s.size : Int)
  · go_enter Tryd.func6, Tryd.ntmps6
    go_wp2
    go_ret
    exact ⟨rfl, Below.refl _ _⟩
  · by_cases h0 : s.size = 0
    · have hse : s.toList.isEmpty = true := by
        rw [Lib.toList_data, List.isEmpty_iff]
        exact List.eq_nil_of_length_eq_zero (by rw [size_list]; exact h0)
      go_enter Tryd.func6, Tryd.ntmps6
      go_wp2_with fail
      refine (reads_any w hT).mono ?_
      rintro e w1 ⟨rfl, hb1⟩
      go_wp2
      go_ret
      exact ⟨rfl, hb1⟩
    · have hse : s.toList.isEmpty = false := by
        rw [Lib.toList_data]
        cases hx : s.data.toList with
        | nil => exact absurd (by rw [← size_list, hx]; rfl) h0
        | cons a r => rfl
      have HNE := Lib.hid (p := s.data.toList ≠ []) (by intro h; rw [Lib.toList_data, h] at hse; cases hse)
      clear h0
      go_enter Tryd.func6, Tryd.ntmps6
      go_wp2
      go_loop [3] (fun i => ∃ k : Nat, k ≤ s.size ∧ i = .int .i64 k ∧ Hid ((s.data.toList.take k).all free10 = true)) (fun i => s.size - (intOf i).toNat)
      case atStart => exact ⟨0, by omega, rfl, by simp [Hid]⟩
      case round =>
        obtain ⟨k, hk, rfl, HA⟩ := hrel
        by_cases hlt : k < s.size
        · have hkl : k < s.data.toList.length := by rw [size_list]; exact hlt
          cases h10 : ((s[k].toNat : Int) == 10)
          · cases h13 : ((s[k].toNat : Int) == 13)
            · have HE := Lib.hid (p := free10 s.data.toList[k] = true) (free_at h10)
              go_wp2
              go_round
              case rel => exact ⟨k + 1, by omega, by go_num, Lib.hid (all_take_succ hkl HA.out HE.out)⟩
              case measure => simp [intOf]; omega
            · go_wp2
              go_ret
              exact ⟨rfl, Below.refl _ _⟩
          · go_wp2
            go_ret
            exact ⟨rfl, Below.refl _ _⟩
        · have HF := Lib.hid (free_of (all_of_take (by rw [size_list]; exact hlt) HA.out))
          by_cases hm : pre <+: s.data.toList ∧ suf <:+ s.data.toList
          · obtain ⟨h3, hp⟩ := pre_take hm.1
            have hq : ((s.extract (s.size - 3) s.size).toList == [32, 45, 45]) = true := by
              rw [suf_drop h3]
              exact List.isSuffixOf_iff_suffix.2 hm.2
            clear hm
            go_wp2_with fail
            refine (reads_any w hT).mono ?_
            rintro e w1 ⟨rfl, hb1⟩
            go_wp2
            go_ret
            exact ⟨rfl, hb1⟩
          · have hpl := law_parseNoMarker HNE.out HF.out hm
            have happ : (s ++ (⟨#[10]⟩ : ByteArray)).data.toList = s.data.toList ++ [10] := append_list _ _
            have HP1 := Lib.hid (p := S (parse s.data.toList).1 = s ++ (⟨#[10]⟩ : ByteArray)) (by
              rw [hpl]
              exact ba_eq (by rw [S_data, happ]))
            have HP2 := Lib.hid (p := (parse s.data.toList).2 = []) (by rw [hpl])
            clear hpl happ
            by_cases h3 : 3 ≤ s.size
            · by_cases hpp : pre <+: s.data.toList
              · have hp := (pre_take hpp).2
                have hq : ((s.extract (s.size - 3) s.size).toList == [32, 45, 45]) = false := by
                  rw [suf_drop h3]
                  cases hx : suf.isSuffixOf s.data.toList with
                  | false => rfl
                  | true => exact absurd ⟨hpp, List.isSuffixOf_iff_suffix.1 hx⟩ hm
                clear hm hpp
                go_wp2_with fail
                refine (implParse_any s w (by omega) hT).mono ?_
                rw [HP1.out, HP2.out]
                rintro e w2 ⟨A, n, cap, rfl, ha, hb2⟩
                have hn : n ≤ 17179869184 := by rw [ha.1.out]; simp
                go_wp2_with fail
                refine (same_any (s ++ (⟨#[10]⟩ : ByteArray)) A none n cap 0 0 [] w2 ha (FArgs.nil_ _) hn).mono ?_
                rintro e w3 ⟨rfl, hb3⟩
                go_wp2
                go_ret
                exact ⟨rfl, hb2.trans (hb3.mono hb2.size)⟩
              · have hp := pre_take_no hpp h3
                clear hm hpp
                go_wp2_with fail
                refine (implParse_any s w (by omega) hT).mono ?_
                rw [HP1.out, HP2.out]
                rintro e w2 ⟨A, n, cap, rfl, ha, hb2⟩
                have hn : n ≤ 17179869184 := by rw [ha.1.out]; simp
                go_wp2_with fail
                refine (same_any (s ++ (⟨#[10]⟩ : ByteArray)) A none n cap 0 0 [] w2 ha (FArgs.nil_ _) hn).mono ?_
                rintro e w3 ⟨rfl, hb3⟩
                go_wp2
                go_ret
                exact ⟨rfl, hb2.trans (hb3.mono hb2.size)⟩
            · clear hm
              go_wp2_with fail
              refine (implParse_any s w (by omega) hT).mono ?_
              rw [HP1.out, HP2.out]
              rintro e w2 ⟨A, n, cap, rfl, ha, hb2⟩
              have hn : n ≤ 17179869184 := by rw [ha.1.out]; simp
              go_wp2_with fail
              refine (same_any (s ++ (⟨#[10]⟩ : ByteArray)) A none n cap 0 0 [] w2 ha (FArgs.nil_ _) hn).mono ?_
              rintro e w3 ⟨rfl, hb3⟩
              go_wp2
              go_ret
              exact ⟨rfl, hb2.trans (hb3.mono hb2.size)⟩
end Go.Proofs.YtmogecodjiofeaaDoor.Tx
