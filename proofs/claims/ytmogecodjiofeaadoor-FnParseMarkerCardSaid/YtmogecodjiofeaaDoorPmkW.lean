/-
  The walk of the statement FnParseMarker: it answers true at all strings. Condition: the library's four tables as their initialisers lay them.
-/
import Derived.Test.YtmogecodjiofeaaDoorBlk
import Derived.Deep.RegionWith
namespace Go.Proofs.YtmogecodjiofeaaDoor.Tx
open Go Go.RowKit

set_option maxHeartbeats 3200000 in
set_option maxRecDepth 100000 in
theorem pmk_walk (b n a t : ByteArray) (w : World) (hT : Tabs w) : Calls Tryd.prog 3 #[.string b, .string n, .string a, .string t] w fun e w' => e = .returned (.bool true) ∧ Below w.heap.size w w' := by
  by_cases h0 : (2147483647 : Int) < (b.size : Int)
  · go_enter Tryd.func3, Tryd.ntmps3
    go_wp2
    go_ret
    exact ⟨rfl, Below.refl _ _⟩
  by_cases h1 : (2147483647 : Int) < (n.size : Int)
  · go_enter Tryd.func3, Tryd.ntmps3
    go_wp2
    go_ret
    exact ⟨rfl, Below.refl _ _⟩
  by_cases h2 : (2147483647 : Int) < (a.size : Int)
  · go_enter Tryd.func3, Tryd.ntmps3
    go_wp2
    go_ret
    exact ⟨rfl, Below.refl _ _⟩
  by_cases h3 : (2147483647 : Int) < (t.size : Int)
  · go_enter Tryd.func3, Tryd.ntmps3
    go_wp2
    go_ret
    exact ⟨rfl, Below.refl _ _⟩
  cases hn : namedB n
  · go_enter Tryd.func3, Tryd.ntmps3
    go_wp2_with fail
    refine (named_any n w (by omega)).mono ?_
    rw [hn]
    rintro e w1 ⟨rfl, rfl⟩
    go_wp2
    go_ret
    exact ⟨rfl, Below.refl _ _⟩
  · cases hu : unmarkedB t
    · go_enter Tryd.func3, Tryd.ntmps3
      go_wp2_with fail
      refine (named_any n w (by omega)).mono ?_
      rw [hn]
      rintro e w1 ⟨rfl, rfl⟩
      go_wp2_with fail
      refine (unmarked_any t w (by omega)).mono ?_
      rw [hu]
      rintro e w1 ⟨rfl, hb1⟩
      go_wp2
      go_ret
      exact ⟨rfl, hb1⟩
    · have hlt40 : ¬ (1099511627776 : Int) < (b.size : Int) + (a.size : Int) := by omega
      go_enter Tryd.func3, Tryd.ntmps3
      go_wp2_with fail
      refine (named_any n w (by omega)).mono ?_
      rw [hn]
      rintro e w1 ⟨rfl, rfl⟩
      go_wp2_with fail
      refine (unmarked_any t w (by omega)).mono ?_
      rw [hu]
      rintro e w1 ⟨rfl, hb1⟩
      go_wp2
      go_loop [51] (fun i => ∃ k : Nat, k ≤ 2 ∧ i = .int .i64 k ∧ Hid (1 ≤ k → b.data.toList.all blankOk = true) ∧ Hid (2 ≤ k → a.data.toList.all blankOk = true)) (fun i => 2 - (intOf i).toNat)
      case atStart => exact ⟨0, by omega, rfl, fun h => absurd h (by omega), fun h => absurd h (by omega)⟩
      case round =>
        obtain ⟨k, hk, rfl, HB1, HB2⟩ := hrel
        have hk3 : k = 0 ∨ k = 1 ∨ k = 2 := by omega
        rcases hk3 with rfl | rfl | rfl
        · clear hk
          go_wp2
          go_loop [11] (fun i => ∃ q : Nat, q ≤ b.size ∧ i = .int .i64 q ∧ Hid ((b.data.toList.take q).all blankOk = true)) (fun i => b.size - (intOf i).toNat)
          case atStart => exact ⟨0, by omega, rfl, by simp [Hid]⟩
          case round =>
            obtain ⟨q, hq, rfl, HA⟩ := hrel
            by_cases hlq : q < b.size
            · have hql : q < b.data.toList.length := by rw [size_list]; exact hlq
              cases h32 : ((b[q].toNat : Int) == 32)
              · have h32' : ((b[q].toNat : Int) != 32) = true := by simpa [bne] using h32
                cases h9 : ((b[q].toNat : Int) == 9)
                · have h9' : ((b[q].toNat : Int) != 9) = true := by simpa [bne] using h9
                  go_wp2
                  go_ret
                  exact ⟨rfl, hb1.alloc hb1.size _⟩
                · have h9' : ((b[q].toNat : Int) != 9) = false := by simpa [bne] using h9
                  have HE := Lib.hid (p := blankOk b.data.toList[q] = true) (blank_9 h9)
                  go_wp2
                  go_round
                  case rel => exact ⟨q + 1, by omega, by go_num, Lib.hid (all_take_succ hql HA.out HE.out)⟩
                  case measure => simp [intOf]; omega
              · have h32' : ((b[q].toNat : Int) != 32) = false := by simpa [bne] using h32
                have HE := Lib.hid (p := blankOk b.data.toList[q] = true) (blank_32 h32)
                go_wp2
                go_round
                case rel => exact ⟨q + 1, by omega, by go_num, Lib.hid (all_take_succ hql HA.out HE.out)⟩
                case measure => simp [intOf]; omega
            · have HF := Lib.hid (all_of_take (by rw [size_list]; exact hlq) HA.out)
              go_wp2
              go_round
              case rel => exact ⟨0 + 1, by omega, by go_num, fun _ => HF.out, fun h => absurd h (by omega)⟩
              case measure => simp [intOf]
        · clear hk
          go_wp2
          go_loop [11] (fun i => ∃ q : Nat, q ≤ a.size ∧ i = .int .i64 q ∧ Hid ((a.data.toList.take q).all blankOk = true)) (fun i => a.size - (intOf i).toNat)
          case atStart => exact ⟨0, by omega, rfl, by simp [Hid]⟩
          case round =>
            obtain ⟨q, hq, rfl, HA⟩ := hrel
            by_cases hlq : q < a.size
            · have hql : q < a.data.toList.length := by rw [size_list]; exact hlq
              cases h32 : ((a[q].toNat : Int) == 32)
              · have h32' : ((a[q].toNat : Int) != 32) = true := by simpa [bne] using h32
                cases h9 : ((a[q].toNat : Int) == 9)
                · have h9' : ((a[q].toNat : Int) != 9) = true := by simpa [bne] using h9
                  go_wp2
                  go_ret
                  exact ⟨rfl, hb1.alloc hb1.size _⟩
                · have h9' : ((a[q].toNat : Int) != 9) = false := by simpa [bne] using h9
                  have HE := Lib.hid (p := blankOk a.data.toList[q] = true) (blank_9 h9)
                  go_wp2
                  go_round
                  case rel => exact ⟨q + 1, by omega, by go_num, Lib.hid (all_take_succ hql HA.out HE.out)⟩
                  case measure => simp [intOf]; omega
              · have h32' : ((a[q].toNat : Int) != 32) = false := by simpa [bne] using h32
                have HE := Lib.hid (p := blankOk a.data.toList[q] = true) (blank_32 h32)
                go_wp2
                go_round
                case rel => exact ⟨q + 1, by omega, by go_num, Lib.hid (all_take_succ hql HA.out HE.out)⟩
                case measure => simp [intOf]; omega
            · have HF := Lib.hid (all_of_take (by rw [size_list]; exact hlq) HA.out)
              go_wp2
              go_round
              case rel => exact ⟨1 + 1, by omega, by go_num, fun _ => HB1.out (by omega), fun _ => HF.out⟩
              case measure => simp [intOf]
        · clear hk
          have hbb := HB1.out (by omega)
          have haa := HB2.out (by omega)
          have hpl := law_parseMarker (t := t.data.toList) (blank_sp hbb) (blank_sp haa) (blank_free hbb) (blank_free haa) hn hu
          rw [← markText_list] at hpl
          obtain ⟨x, hx⟩ : ∃ x, x = endedS t := ⟨_, rfl⟩
          have HX := Lib.hid hx
          have HP1 := Lib.hid (p := S (parse (markText b n a t).data.toList).1 = ⟨#[]⟩) (by rw [hpl]; rfl)
          have HP2 := Lib.hid (p := (parse (markText b n a t).data.toList).2 = [(n.data.toList, x.data.toList)]) (by rw [hpl, hx, endedS_list])
          have hmz : (markText b n a t).size ≤ 17179869184 := by rw [markText_size]; omega
          have hmt : (⟨#[45, 45, 32]⟩ : ByteArray) ++ b ++ n ++ a ++ (⟨#[32, 45, 45, 10]⟩ : ByteArray) ++ t = markText b n a t := rfl
          clear hpl hx hbb haa
          go_wp2_with fail
          refine (ended_any t _ (by omega)).mono ?_
          rw [← HX.out]
          rintro e w2 ⟨rfl, rfl⟩
          go_wp2_with fail
          obtain ⟨w3, hw3⟩ : ∃ w3, w3 = ((w1.alloc (.cells #[.string b, .string a] 9)).alloc (.cells #[.string n, .string x] 26)).alloc (.cells #[.string ⟨#[]⟩, .slice (some ⟨w1.heap.size + 1, 0, none⟩) 1 1] 29) := ⟨_, rfl⟩
          rw [← hw3]
          have hb3 : Below w.heap.size w w3 := by
            rw [hw3]
            have := hb1.size
            exact ((hb1.alloc this _).alloc (by simp; omega) _).alloc (by simp; omega) _
          have hg : w3.heap[w1.heap.size + 1]? = some (.cells #[.string n, .string x] 26 (0, 0)) := mid_block (by rw [hw3])
          have hfa := fargs_one hg rfl
          have hr3 : w3.heap[w1.heap.size + 1 + 1]? = some (.cells #[.string ⟨#[]⟩, .slice (some ⟨w1.heap.size + 1, 0, none⟩) 1 1] 29 (0, 0)) := third_block (by rw [hw3])
          have hk0 : w3.cell? ⟨w1.heap.size + 1 + 1, 0, none⟩ = some (.string ⟨#[]⟩) := by rw [Lib.cell_of_heap hr3]; rfl
          have hk1 : w3.cell? ⟨w1.heap.size + 1 + 1, 1, none⟩ = some (.slice (some ⟨w1.heap.size + 1, 0, none⟩) 1 1) := by rw [Lib.cell_of_heap hr3]; rfl
          have hlt3 := Lib.lt_of_heap hr3
          have HFA := Lib.hid hfa
          clear hw3 hg hr3 hfa
          go_region_with (first
            | (go_at_call 15; refine (implParse_any (markText b n a t) _ hmz (hT.below (by exact hb3.drew))).mono ?_; rw [HP1.out, HP2.out]; rintro e w4 ⟨A, m, cap, rfl, ha, hb4'⟩; have hb4 : Below w3.heap.size w3 w4 := (Below.refl _ w3).drew.trans hb4'; have hk40 := (hb4.cell (p := ⟨w1.heap.size + 1 + 1, 0, none⟩) hlt3).trans hk0; have hk41 := (hb4.cell (p := ⟨w1.heap.size + 1 + 1, 1, none⟩) hlt3).trans hk1; have hbw4 : Below w.heap.size w w4 := hb3.trans (hb4.mono hb3.size))
            | (go_at_call 14; refine (same_any ⟨#[]⟩ A (some ⟨w1.heap.size + 1, 0, none⟩) m cap 1 1 [(n.data.toList, x.data.toList)] w4 ha (HFA.out.below hb4) (by rw [ha.1.out]; simp)).mono ?_; rintro e w5 ⟨rfl, hb5'⟩; have hb5 : Below w.heap.size w w5 := hbw4.trans (hb5'.mono hbw4.size)))
          all_goals
            go_wp2
            go_ret
            exact ⟨rfl, hb5⟩
end Go.Proofs.YtmogecodjiofeaaDoor.Tx
