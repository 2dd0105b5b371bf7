/-
  The walk of the statement FnFindParse: it answers true at every string. Condition: the library's four tables as their initialisers lay them.
-/
import Derived.Test.YtmogecodjiofeaaDoorSame
import Derived.Test.YtmogecodjiofeaaDoorImpM
namespace Go.Proofs.YtmogecodjiofeaaDoor.Tx
open Go Go.RowKit

theorem find_x : (find nm (⟨#[120, 10, 45, 45, 32, 97, 32, 45, 45, 10, 98]⟩ : ByteArray).data.toList).2.1 = [97] := by
  have e : lines (⟨#[120, 10, 45, 45, 32, 97, 32, 45, 45, 10, 98]⟩ : ByteArray).data.toList = [[120, 10], mkLine [97], [98, 10]] := by decide
  have h1 : nm [120, 10] = [] := nmWith_not_pre trim (by decide)
  have h2 : nm (mkLine [97]) = [97] := by rw [nm_mkLine, trim_named named_a]
  unfold find
  rw [e]
  simp [scan, h1, h2]
def fipLeft (v8 v9 : Value) : Nat := if nameLen v8 = 0 then 0 else nameLen v9 + 1
theorem fip_less {x y x2 y2 : ByteArray} (hx : 0 < x.size) (h : 0 < x2.size → y2.size + 1 ≤ y.size) : fipLeft (.string x2) (.string y2) < fipLeft (.string x) (.string y) := by
  show (if x2.size = 0 then 0 else y2.size + 1) < (if x.size = 0 then 0 else y.size + 1)
  rw [if_neg (show ¬ x.size = 0 by omega)]
  split
  · omega
  · have := h (by omega)
    omega

set_option maxHeartbeats 3200000 in
set_option maxRecDepth 100000 in
theorem fip_walk (s : ByteArray) (w : World) (hT : Tabs w) : Calls Tryd.prog 10 #[.string s] w fun e w' => e = .returned (.bool true) ∧ Below w.heap.size w w' := by
  by_cases hs : (2147483647 : Int) < (s.size : Int)
  · go_enter Tryd.func10, Tryd.ntmps10
    go_wp2
    go_ret
    exact ⟨rfl, Below.refl _ _⟩
  · obtain ⟨i0, hi, hz0, hz1, hz2⟩ := info_parts infoIF
    obtain ⟨c, hc⟩ : ∃ c, c = S (parse s.data.toList).1 := ⟨_, rfl⟩
    obtain ⟨gs, hgs⟩ : ∃ gs, gs = (parse s.data.toList).2 := ⟨_, rfl⟩
    have HN := Lib.hid (p := gs.length ≤ 4294967296) (by
      have := files_count s.data.toList
      rw [size_list] at this
      rw [hgs]
      omega)
    have HC := Lib.hid hc
    have HGS := Lib.hid hgs
    have HPS := Lib.hid (parse_start s.data.toList)
    clear hc hgs
    go_enter Tryd.func10, Tryd.ntmps10
    go_wp2_with fail
    refine (implFind_any ⟨#[120, 10, 45, 45, 32, 97, 32, 45, 45, 10, 98]⟩ w (by decide) hT).mono ?_
    rintro e w1 ⟨a0, x0, b0, rfl, -, HX0, -, -, -, hb1⟩
    obtain rfl : x0 = ⟨#[97]⟩ := ba_eq (by rw [HX0.out]; exact find_x)
    go_wp2_with fail
    refine (implParse_any s w1 (by omega) (hT.below hb1)).mono ?_
    rw [← HC.out, ← HGS.out]
    rintro e w2 ⟨A, n, cap, rfl, ha, hb2'⟩
    have hb2 := hb1.trans (hb2'.mono hb1.size)
    have hn : n ≤ 17179869184 := by rw [ha.1.out]; have := HN.out; omega
    have hb2a : ∀ o, Below w.heap.size w (w2.alloc o) := fun o => hb2.alloc hb2.size o
    have hb22 : ∀ o, Below w2.heap.size w2 (w2.alloc o) := fun o => (Below.refl _ _).alloc (Nat.le_refl _) o
    go_wp2_with fail
    refine (implFind_any s _ (by omega) (hT.below (hb2a _))).mono ?_
    rintro e w3 ⟨a1, x1, y1, rfl, HA1, HX1, HY1, ha1, hy1, hb3'⟩
    have hb23 : Below w2.heap.size w2 w3 := (hb22 _).trans (hb3'.mono (by simp))
    have hb3 : Below w.heap.size w w3 := hb2.trans (hb23.mono hb2.size)
    have hc60 : w3.cell? ⟨w2.heap.size, 0, none⟩ = some (.string c) := (hb3'.cell (p := ⟨w2.heap.size, 0, none⟩) (by simp)).trans (by rw [Lib.cell_of_heap (heap_alloc_new w2 _)]; rfl)
    have hc61 : w3.cell? ⟨w2.heap.size, 1, none⟩ = some (.slice A n cap) := (hb3'.cell (p := ⟨w2.heap.size, 1, none⟩) (by simp)).trans (by rw [Lib.cell_of_heap (heap_alloc_new w2 _)]; rfl)
    have hlt6 : w2.heap.size < w3.heap.size := by have := hb3'.size; simp at this; omega
    have HA3 := Lib.hid (ha.below hb23)
    obtain rfl : a1 = c := ba_eq (by rw [HA1.out, HC.out, S_data, HPS.out])
    clear hb3' hb2a hb22
    go_wp2_with fail
    go_loopw [8, 9] (fun v8 v9 wr => ∃ (x y : ByteArray) (k : Nat) (vf : Value) (fs : List (Bs × Bs)), v8 = .string x ∧ v9 = .string y ∧ y.size ≤ 2147483647 ∧
        wr.heap[w3.heap.size]? = some (.cells #[.string a1, vf] 29 (0, 0)) ∧ wr.ownsRow w3.heap.size 26 2 vf k (fileCells fs) ∧ Hid (k = fs.length) ∧
        Hid (gs = fs ++ restOf x.data.toList y.data.toList) ∧ Below w3.heap.size w3 wr) (fun v8 v9 _ => fipLeft v8 v9)
    case atStart =>
      refine ⟨x1, y1, 0, .slice none 0 0, [], rfl, rfl, by omega, ?_, World.ownsRow_nil _ _ _ _, rfl, Lib.hid ?_, (Below.refl _ _).alloc (Nat.le_refl _) _⟩
      · exact heap_alloc_new w3 _
      · rw [HGS.out, HPS.out, ← HX1.out, ← HY1.out]
        rfl
    case round =>
      obtain ⟨x, y, k, vf, fs, rfl, rfl, hys, hblk, hown, HK, HG, hb⟩ := hrel
      obtain ⟨F, fc, rfl, hfc, -⟩ := Row.of_own hown
      have hsz := hb.size
      have hkn : k ≤ 4294967296 := by
        have h1 := HN.out
        rw [HG.out, List.length_append] at h1
        rw [HK.out]
        omega
      have hR1 : wr.cell? ⟨w3.heap.size, 1, none⟩ = some (.slice F k fc) := by rw [Lib.cell_of_heap hblk]; rfl
      have hR0 : wr.cell? ⟨w3.heap.size, 0, none⟩ = some (.string a1) := by rw [Lib.cell_of_heap hblk]; rfl
      by_cases hx : 0 < x.size
      · have hxe : x.toList.isEmpty = false := by
          rw [Lib.toList_data]
          cases h : x.data.toList with
          | nil => rw [← size_list, h] at hx; exact absurd hx (Nat.lt_irrefl 0)
          | cons => rfl
        have HXN := Lib.hid (p := x.data.toList ≠ []) (by intro h; rw [Lib.toList_data, h] at hxe; cases hxe)
        have hRlt := Lib.lt_of_heap hblk
        have HB := Lib.hid hblk
        have HOWN := Lib.hid hown
        clear hblk hown
        have hba : ∀ o, Below w3.heap.size w3 (wr.alloc o) := fun o => hb.alloc hsz o
        go_wp2_with fail
        refine (implFind_any y _ (by omega) (hT.below (hb3.trans ((hba _).mono hb3.size)))).mono ?_
        rintro e w6 ⟨a2, x2, y2, rfl, HA2, HX2, HY2, ha2, hy2, hb6⟩
        have hF6 : w6.heap[wr.heap.size]? = some (.cells #[.string x, .string ⟨#[]⟩] 26 (0, 0)) := by
          rw [hb6.block _ (by simp), heap_alloc_new wr _]
        have hF0 : w6.cell? ⟨wr.heap.size, 0, none⟩ = some (.string x) := by rw [Lib.cell_of_heap hF6]; rfl
        have hF1 : w6.cell? ⟨wr.heap.size, 1, none⟩ = some (.string ⟨#[]⟩) := by rw [Lib.cell_of_heap hF6]; rfl
        have hFf : w6.frozen? ⟨wr.heap.size, 1, none⟩ = false := by simp [World.frozen?, hF6]
        have hbr6 : Below wr.heap.size wr w6 := ((Below.refl _ _).alloc (Nat.le_refl _) _).trans (hb6.mono (by simp))
        have hRc := (hbr6.cell (p := ⟨w3.heap.size, 1, none⟩) hRlt).trans hR1
        obtain ⟨wx, hwx⟩ : ∃ wx, wx = w6.setCell ⟨wr.heap.size, 1, none⟩ (.string a2) := ⟨_, rfl⟩
        have hbx : Below wr.heap.size wr wx := by rw [hwx]; exact hbr6.setCell (Nat.le_refl _) _
        have hFx : wx.heap[wr.heap.size]? = some (.cells #[.string x, .string a2] 26 (0, 0)) := by
          rw [hwx]
          simp [World.setCell, Array.getElem?_modify, hF6]
        have hRx : wx.heap[w3.heap.size]? = some (.cells #[.string a1, .slice F k fc] 29 (0, 0)) := by
          rw [hbx.block _ hRlt]
          exact HB.out
        have HOWNx := Lib.hid (owns_below HOWN.out hbx)
        have hbxw : Below w3.heap.size w3 wx := hb.trans (hbx.mono hsz)
        have hszx := hbxw.size
        have HRX := Lib.hid hRx
        have HWX := Lib.hid hwx
        have hld : wx.cell? ⟨w3.heap.size, 1, none⟩ = some (.slice F k fc) := by rw [Lib.cell_of_heap hRx]; rfl
        have hl0 : wx.cell? ⟨wr.heap.size, 0, none⟩ = some (.string x) := by rw [Lib.cell_of_heap hFx]; rfl
        have hl1 : wx.cell? ⟨wr.heap.size, 1, none⟩ = some (.string a2) := by rw [Lib.cell_of_heap hFx]; rfl
        have hld' := fun o => cell_one hld o
        have hwx' : w6.setCell ⟨wr.heap.size, 1, none⟩ (.string a2) = wx := hwx.symm
        have HST := Lib.hid (restOf_step (d := y.data.toList) HXN.out)
        have HSH := Lib.hid (p := 0 < x2.size → y2.size + 1 ≤ y.size) (fun h => by
          have h5 := find_shorter (d := y.data.toList) (by
            rw [← HX2.out]
            intro h0
            rw [← size_list, h0] at h
            exact Nat.lt_irrefl 0 h)
          rw [← HY2.out, size_list, size_list] at h5
          exact h5)
        clear hwx hFx hRx hbr6 hb6 hF6
        go_wp2_with (at_builtin; refine list_push rfl (.tmp 42) (.tmp 44) 27 rfl w3.heap.size 26 i0 _ 32 Tryd.underlying27 hi hz0 hz1 hz2 rfl (.slice F k fc) k (fileCells fs) rfl (owns_heap (HOWNx.out.alloc _) rfl) _ _ rfl _ _ _ _ (first_block rfl) ⟨rfl, rfl⟩ (by unfold maxLen; omega) (by omega) (by simp; omega) _ _ _ (old_block1 rfl HRX.out) (by decide) (.slice F k fc) rfl ?_; intro g cp w4 hown4 hgrow4 hR4 hc4 hf4)
        have HG4 := Lib.hid hgrow4
        have HO4 := Lib.hid hown4
        have HR4 := Lib.hid hR4
        clear hgrow4 hown4 hR4
        go_wp2
        go_roundw
        case rel =>
          refine ⟨x2, y2, k + 1, .slice (some ⟨g, 0, none⟩) (k + 1) cp, fs ++ [(x.data.toList, a2.data.toList)], rfl, rfl, by omega, ?_, ?_, Lib.hid ?_, Lib.hid ?_, ?_⟩
          · have := HR4.out
            simp [World.setCell, Array.getElem?_modify, this]
          · rw [fileCells_snoc]
            have := HO4.out
            simp only [S_of]
            exact ownsRow_setCell_other this (own_ne this HR4.out (by decide)).symm _
          · rw [HK.out]; simp
          · rw [HG.out, HST.out, HA2.out, HX2.out, HY2.out]
            simp
          · exact ((hbxw.alloc hszx _).grown HG4.out (by simp; omega) (fun j hj => (HOWNx.out.lt j hj).1)).setCell (Nat.le_refl _) _
        case measure => exact fip_less hx HSH.out
      · have hxe : x.toList.isEmpty = true := by
          rw [Lib.toList_data, List.isEmpty_iff]
          exact List.eq_nil_of_length_eq_zero (by rw [size_list]; omega)
        have HE := Lib.hid (p := gs = fs) (by
          rw [HG.out, restOf, if_pos (by rw [Lib.toList_data] at hxe; simpa using hxe), List.append_nil])
        obtain ⟨F', fc', he, hfc2, hrow⟩ := Row.of_own hown
        cases he
        have hk60 := (hb.cell (p := ⟨w2.heap.size, 0, none⟩) hlt6).trans hc60
        have hk61 := (hb.cell (p := ⟨w2.heap.size, 1, none⟩) hlt6).trans hc61
        have HROW := Lib.hid hrow
        clear hblk hown hrow
        go_wp2_with fail
        refine (same_any a1 A F n cap k fc gs _ (HA3.out.below hb) ⟨by rw [HE.out]; exact HK, hfc, by rw [HE.out]; exact HROW.out⟩ hn).mono ?_
        rintro e w5 ⟨rfl, hb5⟩
        go_wp2
        go_ret
        exact ⟨rfl, (hb3.trans (hb.mono hb3.size)).trans (hb5.mono (by have := hb3.size; omega))⟩
end Go.Proofs.YtmogecodjiofeaaDoor.Tx
