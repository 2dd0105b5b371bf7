/-
  The walk of the statement FnIsMarker: it answers true at all strings. Condition: the library's four tables as their initialisers lay them.
-/
import Derived.Test.YtmogecodjiofeaaDoorBlk
import Derived.Test.YtmogecodjiofeaaDoorImpM
namespace Go.Proofs.YtmogecodjiofeaaDoor.Tx
open Go Go.RowKit

set_option maxHeartbeats 3200000 in
set_option maxRecDepth 100000 in
theorem ism_walk (b n a t : ByteArray) (w : World) (hT : Tabs w) : Calls Tryd.prog 9 #[.string b, .string n, .string a, .string t] w fun e w' => e = .returned (.bool true) ∧ Below w.heap.size w w' := by
  by_cases h0 : (2147483647 : Int) < (b.size : Int)
  · go_enter Tryd.func9, Tryd.ntmps9
    go_wp2
    go_ret
    exact ⟨rfl, Below.refl _ _⟩
  by_cases h1 : (2147483647 : Int) < (n.size : Int)
  · go_enter Tryd.func9, Tryd.ntmps9
    go_wp2
    go_ret
    exact ⟨rfl, Below.refl _ _⟩
  by_cases h2 : (2147483647 : Int) < (a.size : Int)
  · go_enter Tryd.func9, Tryd.ntmps9
    go_wp2
    go_ret
    exact ⟨rfl, Below.refl _ _⟩
  by_cases h3 : (2147483647 : Int) < (t.size : Int)
  · go_enter Tryd.func9, Tryd.ntmps9
    go_wp2
    go_ret
    exact ⟨rfl, Below.refl _ _⟩
  cases hn : namedB n
  · go_enter Tryd.func9, Tryd.ntmps9
    go_wp2_with fail
    refine (named_any n w (by omega)).mono ?_
    rw [hn]
    rintro e w1 ⟨rfl, rfl⟩
    go_wp2_with fail
    refine (reads_any w hT).mono ?_
    rintro e w1 ⟨rfl, hb1⟩
    go_wp2
    go_ret
    exact ⟨rfl, hb1⟩
  · have hlt40 : ¬ (1099511627776 : Int) < (b.size : Int) + (a.size : Int) + (t.size : Int) := by omega
    · go_enter Tryd.func9, Tryd.ntmps9
      go_wp2_with fail
      refine (named_any n w (by omega)).mono ?_
      rw [hn]
      rintro e w1 ⟨rfl, rfl⟩
      have hb1 : Below w.heap.size w w := Below.refl _ _
      go_wp2
      go_loop [51] (fun i => ∃ k : Nat, k ≤ 2 ∧ i = .int .i64 k ∧ Hid (1 ≤ k → b.data.toList.all blankOk = true) ∧ Hid (2 ≤ k → a.data.toList.all blankOk = true)) (fun i => 2 - (intOf i).toNat)
      case atStart => exact ⟨0, by omega, rfl, fun h => absurd h (by omega), fun h => absurd h (by omega)⟩
      case round =>
        obtain ⟨k, hk, rfl, HB1, HB2⟩ := hrel
        have hk3 : k = 0 ∨ k = 1 ∨ k = 2 := by omega
        rcases hk3 with rfl | rfl | rfl
        · clear hk
          go_wp2
          go_loop [11] (fun i => ∃ q : Nat, q ≤ b.size ∧ i = .int .i64 q ∧ Hid ((b.data.toList.take q).all blankOk = true)) (fun i => b.size - (intOf i).toNat)
          case atStart => exact ⟨0, by omega, rfl, by simp [Hid]⟩
          case round =>
            obtain ⟨q, hq, rfl, HA⟩ := hrel
            by_cases hlq : q < b.size
            · have hql : q < b.data.toList.length := by rw [size_list]; exact hlq
              cases h32 : ((b[q].toNat : Int) == 32)
              · have h32' : ((b[q].toNat : Int) != 32) = true := by simpa [bne] using h32
                cases h9 : ((b[q].toNat : Int) == 9)
                · have h9' : ((b[q].toNat : Int) != 9) = true := by simpa [bne] using h9
                  go_wp2_with fail
                  refine (reads_any _ (hT.below (by exact hb1.alloc hb1.size _))).mono ?_
                  rintro e w5 ⟨rfl, hb5⟩
                  go_wp2
                  go_ret
                  exact ⟨rfl, (hb1.alloc hb1.size _).trans (hb5.mono (by simp))⟩
                · have h9' : ((b[q].toNat : Int) != 9) = false := by simpa [bne] using h9
                  have HE := Lib.hid (p := blankOk b.data.toList[q] = true) (blank_9 h9)
                  go_wp2
                  go_round
                  case rel => exact ⟨q + 1, by omega, by go_num, Lib.hid (all_take_succ hql HA.out HE.out)⟩
                  case measure => simp [intOf]; omega
              · have h32' : ((b[q].toNat : Int) != 32) = false := by simpa [bne] using h32
                have HE := Lib.hid (p := blankOk b.data.toList[q] = true) (blank_32 h32)
                go_wp2
                go_round
                case rel => exact ⟨q + 1, by omega, by go_num, Lib.hid (all_take_succ hql HA.out HE.out)⟩
                case measure => simp [intOf]; omega
            · have HF := Lib.hid (all_of_take (by rw [size_list]; exact hlq) HA.out)
              go_wp2
              go_round
              case rel => exact ⟨0 + 1, by omega, by go_num, fun _ => HF.out, fun h => absurd h (by omega)⟩
              case measure => simp [intOf]
        · clear hk
          go_wp2
          go_loop [11] (fun i => ∃ q : Nat, q ≤ a.size ∧ i = .int .i64 q ∧ Hid ((a.data.toList.take q).all blankOk = true)) (fun i => a.size - (intOf i).toNat)
          case atStart => exact ⟨0, by omega, rfl, by simp [Hid]⟩
          case round =>
            obtain ⟨q, hq, rfl, HA⟩ := hrel
            by_cases hlq : q < a.size
            · have hql : q < a.data.toList.length := by rw [size_list]; exact hlq
              cases h32 : ((a[q].toNat : Int) == 32)
              · have h32' : ((a[q].toNat : Int) != 32) = true := by simpa [bne] using h32
                cases h9 : ((a[q].toNat : Int) == 9)
                · have h9' : ((a[q].toNat : Int) != 9) = true := by simpa [bne] using h9
                  go_wp2_with fail
                  refine (reads_any _ (hT.below (by exact hb1.alloc hb1.size _))).mono ?_
                  rintro e w5 ⟨rfl, hb5⟩
                  go_wp2
                  go_ret
                  exact ⟨rfl, (hb1.alloc hb1.size _).trans (hb5.mono (by simp))⟩
                · have h9' : ((a[q].toNat : Int) != 9) = false := by simpa [bne] using h9
                  have HE := Lib.hid (p := blankOk a.data.toList[q] = true) (blank_9 h9)
                  go_wp2
                  go_round
                  case rel => exact ⟨q + 1, by omega, by go_num, Lib.hid (all_take_succ hql HA.out HE.out)⟩
                  case measure => simp [intOf]; omega
              · have h32' : ((a[q].toNat : Int) != 32) = false := by simpa [bne] using h32
                have HE := Lib.hid (p := blankOk a.data.toList[q] = true) (blank_32 h32)
                go_wp2
                go_round
                case rel => exact ⟨q + 1, by omega, by go_num, Lib.hid (all_take_succ hql HA.out HE.out)⟩
                case measure => simp [intOf]; omega
            · have HF := Lib.hid (all_of_take (by rw [size_list]; exact hlq) HA.out)
              go_wp2
              go_round
              case rel => exact ⟨1 + 1, by omega, by go_num, fun _ => HB1.out (by omega), fun _ => HF.out⟩
              case measure => simp [intOf]
        · clear hk
          have hbb := HB1.out (by omega)
          have haa := HB2.out (by omega)
          have hpl := law_isMarker (t := t.data.toList) (blank_sp hbb) (blank_sp haa) (blank_free hbb) (blank_free haa) hn
          rw [← markText_list] at hpl
          have HH := Lib.hid hpl
          have HNE := Lib.hid (p := n.data.toList ≠ []) (named_parts hn).1
          have hmz : (markText b n a t).size ≤ 17179869184 := by rw [markText_size]; omega
          have hmt : (⟨#[45, 45, 32]⟩ : ByteArray) ++ b ++ n ++ a ++ (⟨#[32, 45, 45, 10]⟩ : ByteArray) ++ t = markText b n a t := rfl
          clear hpl hbb haa
          go_wp2_with fail
          refine (implIsMarker_any (markText b n a t) _ hmz (hT.below (by exact hb1.alloc hb1.size _))).mono ?_
          rintro e w5 ⟨x, r, rfl, HX, HR, hb5⟩
          obtain rfl : x = n := ba_eq (by rw [HX.out]; exact HH.out.1)
          obtain rfl : r = t := ba_eq (by rw [HR.out (by rw [HH.out.1]; exact HNE.out)]; exact HH.out.2)
          clear hmt
          go_wp2
          go_ret
          exact ⟨rfl, (hb1.alloc hb1.size _).trans (hb5.mono (by simp))⟩
end Go.Proofs.YtmogecodjiofeaaDoor.Tx
