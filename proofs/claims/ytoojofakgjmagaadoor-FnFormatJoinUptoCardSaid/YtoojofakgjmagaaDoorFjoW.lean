/-
  The walk of the statement FnFormatJoin: it answers true at every small archive and list of files. Condition: names, texts and comment together at most 2^20.
-/
import Derived.Test.YtoojofakgjmagaaDoorSmall
import Derived.Test.YtoojofakgjmagaaDoorCat
import Derived.Test.YtoojofakgjmagaaDoorImpP
import Derived.Deep.RegionHeld3
import Derived.Deep.DeepCutAuto
import Derived.Deep.DrawnRows
namespace Go.Proofs.YtoojofakgjmagaaDoor.Tx
open Go Go.RowKit
attribute [local go_sem ↓] Go.wp_at_zero Go.wp_at_succ

/-- what the joined archive's variable holds -/
def JoinCut (B : Nat) (w3 : World) (c : ByteArray) (N : Nat) (fs : List (Bs × Bs)) (s5 : Value) (wx : World) : Prop :=
  ∃ (g : Nat) (F : Option Addr) (fc : Nat), s5 = .pointer (some ⟨g, 0, none⟩) ∧ wx.cell? ⟨g, 0, none⟩ = some (.string c) ∧ wx.cell? ⟨g, 1, none⟩ = some (.slice F N fc) ∧ FArgs wx F N fc fs ∧ g < wx.heap.size ∧ Below B w3 wx
theorem fargs_own {w : World} {base : Nat} {e : TypeId} {F : Option Addr} {N fc : Nat} {fs : List (Bs × Bs)} (h : w.ownsRow base e 2 (.slice F N fc) N (fileCells fs)) : FArgs w F N fc fs := by
  obtain ⟨A, cap, he, hc, hr⟩ := Row.of_own h
  cases he
  have h1 := h.1
  rw [fileCells_length] at h1
  exact ⟨Lib.hid (by omega), hc, hr⟩
theorem join_end1 {B : Nat} {w3 W : World} {c : ByteArray} {N g fc : Nat} {F : Option Addr} {fs : List (Bs × Bs)} {u0 u1 : Value} {e T : TypeId} (hz : W.heap[g]? = some (.cells #[u0, u1] T (0, 0))) (hT : T ≠ e) (hb : Below B w3 W) (hg : B ≤ g) (hown : W.ownsRow B e 2 (.slice F N fc) N (fileCells fs)) :
    JoinCut B w3 c N fs (.pointer (some ⟨g, 0, none⟩)) ((W.setCell ⟨g, 0, none⟩ (.string c)).setCell ⟨g, 1, none⟩ (.slice F N fc)) := by
  have hne := own_ne hown hz hT
  have h9 := ownsRow_setCell_other (a := ⟨g, 1, none⟩) (ownsRow_setCell_other (a := ⟨g, 0, none⟩) hown hne.symm (.string c)) hne.symm (.slice F N fc)
  have hR : ((W.setCell ⟨g, 0, none⟩ (.string c)).setCell ⟨g, 1, none⟩ (.slice F N fc)).heap[g]? = some (.cells #[.string c, .slice F N fc] T (0, 0)) := by
    simp [World.setCell, Array.getElem?_modify, hz]
  exact ⟨g, F, fc, rfl, by rw [Lib.cell_of_heap hR]; rfl, by rw [Lib.cell_of_heap hR]; rfl, fargs_own h9, Lib.lt_of_heap hR, (hb.setCell (p := ⟨g, 0, none⟩) hg _).setCell (p := ⟨g, 1, none⟩) hg _⟩
theorem join_end2 {B : Nat} {w3 W : World} {c : ByteArray} {N fc : Nat} {F : Option Addr} {fs : List (Bs × Bs)} {e T : TypeId} (hb : Below B w3 W) (hB : B ≤ W.heap.size) (hown : W.ownsRow B e 2 (.slice F N fc) N (fileCells fs)) :
    JoinCut B w3 c N fs (.pointer (some ⟨W.heap.size, 0, none⟩)) (W.alloc (.cells #[.string c, .slice F N fc] T)) := by
  have hR := heap_alloc_new W (.cells #[.string c, .slice F N fc] T)
  exact ⟨W.heap.size, F, fc, rfl, by rw [Lib.cell_of_heap hR]; rfl, by rw [Lib.cell_of_heap hR]; rfl, fargs_own (hown.alloc _), Lib.lt_of_heap hR, hb.alloc hB _⟩
theorem new_place {w : World} {g : Nat} {u0 u1 : Value} {T : TypeId} (h : w.heap[g]? = some (.cells #[u0, u1] T (0, 0))) : w.cell? ⟨g, 0, none⟩ = some u0 ∧ w.cell? ⟨g, 1, none⟩ = some u1 ∧ w.frozen? ⟨g, 0, none⟩ = false ∧ w.frozen? ⟨g, 1, none⟩ = false :=
  ⟨by rw [Lib.cell_of_heap h]; rfl, by rw [Lib.cell_of_heap h]; rfl, by simp [World.frozen?, h], by simp [World.frozen?, h]⟩

set_option maxHeartbeats 6400000 in
set_option maxRecDepth 100000 in
theorem fjo_walk (c : ByteArray) (A : Option Addr) (n cap : Nat) (fs : List (Bs × Bs)) (D : Option Addr) (m dap : Nat) (gs : List (Bs × Bs)) (w : World) (ha : FArgs w A n cap fs) (hd : FArgs w D m dap gs) (hsm : c.data.toList.length + sumOf fs + sumOf gs ≤ 1048576) :
    Calls Tryd.prog 7 #[.agg #[.string c, .slice A n cap], .slice D m dap] w fun e w' => e = .returned (.bool true) ∧ Below w.heap.size w w' := by
  obtain ⟨i0, hi, hz0, hz1, hz2⟩ := info_parts infoIF
  obtain ⟨hfit, hcs, hns, heach, hwide⟩ := small_of ha.1.out (show c.data.toList.length + sumOf fs ≤ 1048576 by omega)
  obtain ⟨hfit2, -, hms, heach2, hwide2⟩ := small_of (c := ⟨#[]⟩) hd.1.out (show (⟨#[]⟩ : ByteArray).data.toList.length + sumOf gs ≤ 1048576 by simp; omega)
  have hb0 : ∀ o, Below w.heap.size w (w.alloc o) := fun o => (Below.refl _ _).alloc (Nat.le_refl _) o
  have HF1 := Lib.hid hfit
  have HF2 := Lib.hid hfit2
  have HF3 := Lib.hid (p := Fit64 c.data.toList (fs ++ gs)) (fit_small (by rw [sumOf_append]; omega))
  have HE := Lib.hid heach
  have HE2 := Lib.hid heach2
  have HSM := Lib.hid hsm
  clear hfit hfit2 heach heach2 hwide hwide2 hsm
  go_enter Tryd.func7, Tryd.ntmps7
  go_wp2_with fail
  refine (fits1_any c A n cap fs _ (ha.below (hb0 _)) (by omega) HE (by omega)).mono ?_
  rintro e w2 ⟨rfl, hb2'⟩
  have hbw2 : Below w.heap.size w w2 := (hb0 _).trans (hb2'.mono (by simp))
  have hk20 : w2.cell? ⟨w.heap.size, 0, none⟩ = some (.string c) := (hb2'.cell (p := ⟨w.heap.size, 0, none⟩) (by simp)).trans (by rw [Lib.cell_of_heap (heap_alloc_new w _)]; rfl)
  have hk21 : w2.cell? ⟨w.heap.size, 1, none⟩ = some (.slice A n cap) := (hb2'.cell (p := ⟨w.heap.size, 1, none⟩) (by simp)).trans (by rw [Lib.cell_of_heap (heap_alloc_new w _)]; rfl)
  have hlt2 : w.heap.size < w2.heap.size := by have := hb2'.size; simp at this; omega
  clear hb2'
  go_wp2_with fail
  refine (fits2_any D m dap gs w2 (hd.below hbw2) HE2 (by omega)).mono ?_
  rintro e w3 ⟨rfl, hb3'⟩
  have hbw3 : Below w.heap.size w w3 := hbw2.trans (hb3'.mono hbw2.size)
  have hk30 := (hb3'.cell (p := ⟨w.heap.size, 0, none⟩) hlt2).trans hk20
  have hk31 := (hb3'.cell (p := ⟨w.heap.size, 1, none⟩) hlt2).trans hk21
  have hlt3 : w.heap.size < w3.heap.size := Nat.lt_of_lt_of_le hlt2 hb3'.size
  have ha3 := ha.below hbw3
  have hd3 := hd.below hbw3
  clear hb3' hk20 hk21 hbw2 hlt2 hb0 ha hd
  go_upto_region 3 with fail
  go_cut [5] (fun s5 wx => JoinCut w3.heap.size w3 c (n + m) (fs ++ gs) s5 wx)
  case first =>
    have hn0 : ∀ o, w3.heap.size ≤ (w3.drew.alloc o).heap.size := fun o => by simp
    have P1 : ∀ o, Below w3.heap.size w3 (w3.drew.alloc o) := fun o => ((Below.refl _ _).drew).alloc (Nat.le_refl _) o
    have P2 : ∀ o o', Below w3.heap.size w3 ((w3.drew.alloc o).alloc o') := fun o o' => (P1 o).alloc (hn0 o) o'
    have HS : ∀ W', Below w3.heap.size w3 W' → W'.cell? ⟨w.heap.size, 0, none⟩ = some (.string c) ∧ W'.cell? ⟨w.heap.size, 1, none⟩ = some (.slice A n cap) := fun W' h => ⟨(h.cell (p := ⟨w.heap.size, 0, none⟩) hlt3).trans hk30, (h.cell (p := ⟨w.heap.size, 1, none⟩) hlt3).trans hk31⟩
    have HA3 := Lib.hid ha3
    have HD3 := Lib.hid hd3
    clear ha3 hd3
    go_region_held3 (fun w' => w'.cell? ⟨w.heap.size, 0, none⟩ = some (.string c) ∧ w'.cell? ⟨w.heap.size, 1, none⟩ = some (.slice A n cap))
      (first | go_keep | exact HS _ hb5 | exact HS _ hb4 | exact HS _ (P1 _) | exact HS _ (P2 _ _) | exact HS _ (hb4.alloc hb4.size _) | exact HS _ (hb5.alloc hb5.size _) | exact HS _ ((hb5.setCell (Nat.le_refl _) _).setCell (Nat.le_refl _) _) | exact HS _ ((hb5.setCell (Nat.le_succ _) _).setCell (Nat.le_succ _) _) | exact HS _ ((hb5.setCell hb4.size _).setCell hb4.size _) | exact HS _ (((hb5.alloc hb5.size _).setCell hb5.size _).setCell hb5.size _))
      (first
        | (refine step_cat rfl (.tmp 16) (.tmp 18) 22 rfl w3.heap.size 36 i0 _ 32 Tryd.underlying22 hi hz0 hz1 hz2 rfl _ 0 [] (by rfl) (by first | exact own_made (by simp) (by simp) | exact (own_made (by simp) (by simp)).alloc _) A n cap fs (by rfl) (by first | exact HA3.out.below (P1 _) | exact HA3.out.below (P2 _ _)) n (by simp) (fileCells fs) (by simp) (by unfold maxLen; omega) (by omega) (by first | (simp; done) | (simp; omega)) ?_; intro F4 fc4 w4 hown4 hbel4 hkeep4 hoth4; have hb4 : Below w3.heap.size w3 w4 := hbel4 _ _ (Nat.le_refl _) (by first | exact P1 _ | exact P2 _ _); have HO4 := Lib.hid hown4; (first | (have z4 : w4.heap[w3.heap.size + 1]? = some (.cells #[.string ⟨#[]⟩, .slice none 0 0] 24 (0, 0)) := hkeep4 _ _ _ _ (by decide) (second_block rfl)) | (have z4 : w4.heap[w3.heap.size]? = some (.cells #[.string ⟨#[]⟩, .slice none 0 0] 24 (0, 0)) := hkeep4 _ _ _ _ (by decide) (first_of_two rfl)) | skip); clear hkeep4 hbel4 hoth4 hown4)
        | (refine step_cat rfl (.tmp 19) (.tmp 20) 22 rfl w3.heap.size 36 i0 _ 32 Tryd.underlying22 hi hz0 hz1 hz2 rfl (.slice F4 n fc4) n (fileCells fs) (by rfl) (by first | exact HO4.out | exact HO4.out.alloc _) D m dap gs (by rfl) (by first | exact HD3.out.below hb4 | exact HD3.out.below (hb4.alloc hb4.size _)) (n + m) rfl (fileCells (fs ++ gs)) (by simp [fileCells]) (by unfold maxLen; omega) (by omega) (by first | exact hb4.size | exact (hb4.alloc hb4.size _).size) ?_; intro F5 fc5 w5 hown5 hbel5 hkeep5 hoth5; have hb5 : Below w3.heap.size w3 w5 := hbel5 _ _ (Nat.le_refl _) (by first | exact hb4 | exact hb4.alloc hb4.size _); have HO5 := Lib.hid hown5; (first | (have z5 := hkeep5 _ _ _ _ (by decide) z4) | (have z5 : w5.heap[w4.heap.size]? = some (.cells #[.string ⟨#[]⟩, .slice none 0 0] 24 (0, 0)) := hkeep5 _ _ _ _ (by decide) (heap_alloc_new w4 _)) | skip); (first | (obtain ⟨y0, y1, y2, y3⟩ := new_place z5; have Z5 := Lib.hid z5) | skip); (first | clear z4 z5 | clear z5 | skip); clear hkeep5 hbel5 hoth5 hown5))
    all_goals
      go_wp2_with fail
      go_meet
      first | exact join_end1 Z5.out (by decide) hb5 (by omega) HO5.out | exact join_end1 Z5.out (by decide) hb5 (by simp) HO5.out | exact join_end1 Z5.out (by decide) hb5 hb4.size HO5.out | exact join_end2 hb5 hb5.size HO5.out
  case rest =>
    obtain ⟨g, F, fc, rfl, q0, q1, hfa, hgl, hbc⟩ := hcut
    have hbwc : Below w.heap.size w wc := hbw3.trans (hbc.mono (by omega))
    have hb3c : Below w.heap.size w3 wc := hbc.mono (by omega)
    have q2 := (hbc.cell (p := ⟨w.heap.size, 0, none⟩) hlt3).trans hk30
    have q3 := (hbc.cell (p := ⟨w.heap.size, 1, none⟩) hlt3).trans hk31
    have hltc : w.heap.size < wc.heap.size := Nat.lt_of_lt_of_le hlt3 hbc.size
    have HS2 : ∀ W', Below wc.heap.size wc W' → W'.cell? ⟨g, 0, none⟩ = some (.string c) ∧ W'.cell? ⟨g, 1, none⟩ = some (.slice F (n + m) fc) ∧ W'.cell? ⟨w.heap.size, 0, none⟩ = some (.string c) ∧ W'.cell? ⟨w.heap.size, 1, none⟩ = some (.slice A n cap) := fun W' h =>
      ⟨(h.cell (p := ⟨g, 0, none⟩) hgl).trans q0, (h.cell (p := ⟨g, 1, none⟩) hgl).trans q1, (h.cell (p := ⟨w.heap.size, 0, none⟩) hltc).trans q2, (h.cell (p := ⟨w.heap.size, 1, none⟩) hltc).trans q3⟩
    obtain ⟨t2, ht2⟩ : ∃ t, t = S (format (c.data.toList, fs)) := ⟨_, rfl⟩
    obtain ⟨t3, ht3⟩ : ∃ t, t = S (format ((⟨#[]⟩ : ByteArray).data.toList, gs)) := ⟨_, rfl⟩
    have HT1 := Lib.hid (p := S (format (c.data.toList, fs ++ gs)) = t2 ++ t3) (by
      rw [format_join, ht2, ht3]
      exact ba_eq (by rw [S_data, ByteArray.data_append, Array.toList_append, S_data, S_data]))
    have hz2 : t2.size ≤ 4294967296 := by
      have h1 := format_sum c.data.toList fs
      have h2 := HSM.out
      rw [ht2, S_size]
      omega
    have hz3 : t3.size ≤ 4294967296 := by
      have h1 := format_sum (⟨#[]⟩ : ByteArray).data.toList gs
      have h2 := HSM.out
      rw [ht3, S_size]
      simp at h1 ⊢
      omega
    have hadd : ∀ W, (Op.stringOp .add t2 t3).run Tryd.prog W = .ok (.string (t2 ++ t3)) W := fun W => run_string_add_sum W _ _ (by omega)
    have HT2 := Lib.hid ht2
    have HT3 := Lib.hid ht3
    have HFA := Lib.hid hfa
    have HAC := Lib.hid (ha3.below hbc)
    have HDC := Lib.hid (hd3.below hbc)
    clear ht2 ht3 hfa ha3 hd3 hk30 hk31
    go_wp2_with fail
    go_region_held3 (fun w' => w'.cell? ⟨g, 0, none⟩ = some (.string c) ∧ w'.cell? ⟨g, 1, none⟩ = some (.slice F (n + m) fc) ∧ w'.cell? ⟨w.heap.size, 0, none⟩ = some (.string c) ∧ w'.cell? ⟨w.heap.size, 1, none⟩ = some (.slice A n cap))
      (first | go_keep | exact HS2 _ hb9 | exact HS2 _ hb8 | exact HS2 _ hb7 | exact HS2 _ hb6)
      (first
        | (go_at_call 14; (with_reducible refine (implFormat_any c F (n + m) fc (fs ++ gs) _ (by exact HFA.out.below (Below.refl _ _).drew) HF3.out).mono ?_); rw [HT1.out]; rintro e w6 ⟨rfl, hb6'⟩; have hb6 : Below wc.heap.size wc w6 := (Below.refl _ wc).drew.trans hb6')
        | (go_at_call 14; (with_reducible refine (implFormat_any c A n cap fs _ (by exact HAC.out.below hb6) HF1.out).mono ?_); rw [← HT2.out]; rintro e w7 ⟨rfl, hb7'⟩; have hb7 : Below wc.heap.size wc w7 := hb6.trans (hb7'.mono hb6.size))
        | (go_at_call 14; (with_reducible refine (implFormat_any ⟨#[]⟩ D m dap gs _ (by exact HDC.out.below hb7) HF2.out).mono ?_); rw [← HT3.out]; rintro e w8 ⟨rfl, hb8'⟩; have hb8 : Below wc.heap.size wc w8 := hb7.trans (hb8'.mono hb7.size))
        | (go_at_call 16; refine (writes_any _).mono ?_; rintro e w9 ⟨rfl, hb9'⟩; have hb9 : Below wc.heap.size wc w9 := hb8.trans (hb9'.mono hb8.size)))
    all_goals
      go_wp2
      go_ret
      exact ⟨rfl, hbwc.trans (hb9.mono (by omega))⟩
end Go.Proofs.YtoojofakgjmagaaDoor.Tx
