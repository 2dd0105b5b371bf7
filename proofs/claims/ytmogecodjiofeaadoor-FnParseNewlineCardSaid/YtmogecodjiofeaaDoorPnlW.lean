/-
  The walk of the statement FnParseNewline: it answers true at every string. Condition: the library's four tables as their initialisers lay them.
-/
import Derived.Test.YtmogecodjiofeaaDoorFld
namespace Go.Proofs.YtmogecodjiofeaaDoor.Tx
open Go Go.RowKit

set_option maxHeartbeats 1600000 in
set_option maxRecDepth 100000 in
theorem pnl_walk (s : ByteArray) (w : World) (hT : Tabs w) : Calls Tryd.prog 5 #[.string s] w fun e w' => e = .returned (.bool true) ∧ Below w.heap.size w w' := by
  by_cases hs : (2147483647 : Int) < (s.size : Int)
  · go_enter Tryd.func5, Tryd.ntmps5
    go_wp2
    go_ret
    exact ⟨rfl, Below.refl _ _⟩
  · by_cases h0 : s.size = 0
    · have hse : s.toList.isEmpty = true := by
        rw [Lib.toList_data, List.isEmpty_iff]
        exact List.eq_nil_of_length_eq_zero (by rw [size_list]; exact h0)
      go_enter Tryd.func5, Tryd.ntmps5
      go_wp2
      go_ret
      exact ⟨rfl, Below.refl _ _⟩
    · have hse : s.toList.isEmpty = false := by
        rw [Lib.toList_data]
        cases hx : s.data.toList with
        | nil => exact absurd (by rw [← size_list, hx]; rfl) h0
        | cons a r => rfl
      have hpos : 0 < s.size := by omega
      cases h10 : ((s[s.size - 1].toNat : Int) == 10)
      · cases h13 : ((s[s.size - 1].toNat : Int) == 13)
        · have hne : s.data.toList ≠ [] := by intro h; rw [Lib.toList_data, h] at hse; cases hse
          have hlast : s.data.toList.getLast? ≠ some 10 := by
            rw [last_byte (by omega)]
            intro h
            rw [Option.some.inj h] at h10
            cases h10
          have hp := law_parseNewline hne hlast
          obtain ⟨c, hc⟩ : ∃ c, c = S (parse s.data.toList).1 := ⟨_, rfl⟩
          obtain ⟨fs, hfs⟩ : ∃ fs, fs = (parse s.data.toList).2 := ⟨_, rfl⟩
          have HN := Lib.hid (p := fs.length ≤ 4294967296) (by
            have := files_count s.data.toList
            rw [size_list] at this
            rw [hfs]
            omega)
          have happ : (s ++ (⟨#[10]⟩ : ByteArray)).data.toList = s.data.toList ++ [10] := append_list _ _
          have HC2 := Lib.hid (p := S (parse (s ++ (⟨#[10]⟩ : ByteArray)).data.toList).1 = c) (by rw [happ, hc, hp])
          have HF2 := Lib.hid (p := (parse (s ++ (⟨#[10]⟩ : ByteArray)).data.toList).2 = fs) (by rw [happ, hfs, hp])
          have hsz2 : (s ++ (⟨#[10]⟩ : ByteArray)).size ≤ 17179869184 := by
            rw [ByteArray.size_append]
            show s.size + 1 ≤ _
            omega
          have HC := Lib.hid hc
          have HFS := Lib.hid hfs
          clear hp hc hfs happ hne hlast
          go_enter Tryd.func5, Tryd.ntmps5
          go_wp2_with fail
          refine (implParse_any s w (by omega) hT).mono ?_
          rw [← HC.out, ← HFS.out]
          rintro e w2 ⟨A, n, cap, rfl, ha, hb2⟩
          have hn : n ≤ 17179869184 := by rw [ha.1.out]; have := HN.out; omega
          go_wp2_with fail
          refine (implParse_any (s ++ (⟨#[10]⟩ : ByteArray)) w2 hsz2 (hT.below hb2)).mono ?_
          rw [HC2.out, HF2.out]
          rintro e w3 ⟨B, m, cap', rfl, ha', hb3'⟩
          have hb3 := hb2.trans (hb3'.mono hb2.size)
          go_wp2_with fail
          refine (same_any c A B n cap m cap' fs w3 (ha.below hb3') ha' hn).mono ?_
          rintro e w4 ⟨rfl, hb4'⟩
          have hb4 := hb3.trans (hb4'.mono hb3.size)
          go_wp2_with fail
          refine (reads_any w4 (hT.below hb4)).mono ?_
          rintro e w5 ⟨rfl, hb5⟩
          go_wp2
          go_ret
          exact ⟨rfl, hb4.trans (hb5.mono hb4.size)⟩
        · go_enter Tryd.func5, Tryd.ntmps5
          go_wp2
          go_ret
          exact ⟨rfl, Below.refl _ _⟩
      · go_enter Tryd.func5, Tryd.ntmps5
        go_wp2
        go_ret
        exact ⟨rfl, Below.refl _ _⟩
end Go.Proofs.YtmogecodjiofeaaDoor.Tx
