/-
  The walk of the statement FnParseJoin: it answers true at all strings. Condition: the library's four tables as their initialisers lay them.
-/
import Derived.Test.YtapnkeonffbmoaaDoorSame
import Derived.Test.YtapnkeonffbmoaaDoorSpP
import Derived.Test.YtapnkeonffbmoaaDoorJoin
import Derived.Deep.RegionHeld3
import Derived.Deep.DeepCutAuto
import Derived.Deep.DrawnRows
namespace Go.Proofs.YtapnkeonffbmoaaDoor.Tx
open Go Go.RowKit
attribute [local go_sem ↓] Go.wp_at_zero Go.wp_at_succ

set_option maxHeartbeats 20000000 in
set_option maxRecDepth 100000 in
theorem pjo_walk (a nm b : ByteArray) (w : World) (hT : Tabs w) : Calls Tryd.prog 9 #[.string a, .string nm, .string b] w fun e w' => e = .returned (.bool true) ∧ Below w.heap.size w w' := by
  by_cases h1 : (2147483647 : Int) < (a.size : Int)
  · go_enter Tryd.func9, Tryd.ntmps9
    go_wp2
    go_ret
    exact ⟨rfl, Below.refl _ _⟩
  by_cases h2 : (2147483647 : Int) < (nm.size : Int)
  · go_enter Tryd.func9, Tryd.ntmps9
    go_wp2
    go_ret
    exact ⟨rfl, Below.refl _ _⟩
  by_cases h3 : (2147483647 : Int) < (b.size : Int)
  · go_enter Tryd.func9, Tryd.ntmps9
    go_wp2
    go_ret
    exact ⟨rfl, Below.refl _ _⟩
  cases hea : ((endedS a).toList == a.toList)
  · have hea' : ((endedS a).toList != a.toList) = true := by simp only [bne, hea]; rfl
    go_enter Tryd.func9, Tryd.ntmps9
    go_wp2_with fail
    refine (ended_any a w (by omega)).mono ?_
    rintro e w1 ⟨rfl, rfl⟩
    go_wp2
    go_ret
    exact ⟨rfl, Below.refl _ _⟩
  have hee : ended a.data.toList = a.data.toList := by
    rw [Lib.toList_data, Lib.toList_data, endedS_list] at hea
    simpa using hea
  have hes : endedS a = a := by rw [endedS, hee, S_of]
  cases hn : namedB nm
  · have HES := Lib.hid hes
    clear hes hea hee
    go_enter Tryd.func9, Tryd.ntmps9
    go_wp2_with fail
    refine (ended_any a w (by omega)).mono ?_
    rw [HES.out]
    rintro e w1 ⟨rfl, rfl⟩
    go_wp2_with fail
    refine (named_any nm w (by omega)).mono ?_
    rw [hn]
    rintro e w1 ⟨rfl, rfl⟩
    go_wp2
    go_ret
    exact ⟨rfl, Below.refl _ _⟩
  have hpj := law_parseJoin (b := b.data.toList) hee hn
  rw [← joinText_list] at hpj
  obtain ⟨c1, hc1⟩ : ∃ c, c = S (parse a.data.toList).1 := ⟨_, rfl⟩
  obtain ⟨f1, hf1⟩ : ∃ f, f = (parse a.data.toList).2 := ⟨_, rfl⟩
  obtain ⟨c2, hc2⟩ : ∃ c, c = S (parse b.data.toList).1 := ⟨_, rfl⟩
  obtain ⟨f2, hf2⟩ : ∃ f, f = (parse b.data.toList).2 := ⟨_, rfl⟩
  have HJ1 := Lib.hid (p := S (parse (joinText a nm b).data.toList).1 = c1) (by rw [hpj, hc1])
  have HJ2 := Lib.hid (p := (parse (joinText a nm b).data.toList).2 = f1 ++ [(nm.data.toList, c2.data.toList)] ++ f2) (by
    rw [hpj, hf1, hf2, hc2, S_data]
    simp)
  have HN1 := Lib.hid (p := f1.length ≤ 2147483647) (by
    have := files_count a.data.toList
    rw [size_list] at this
    rw [hf1]
    omega)
  have HN2 := Lib.hid (p := f2.length ≤ 2147483647) (by
    have := files_count b.data.toList
    rw [size_list] at this
    rw [hf2]
    omega)
  have hjz : (joinText a nm b).size ≤ 17179869184 := by rw [joinText_size]; omega
  have HES := Lib.hid hes
  have HC1 := Lib.hid hc1
  have HF1 := Lib.hid hf1
  have HC2 := Lib.hid hc2
  have HF2 := Lib.hid hf2
  obtain ⟨i0, hi, hz0, hz1, hz2⟩ := info_parts infoIF
  clear hes hea hee hpj hc1 hf1 hc2 hf2
  go_enter Tryd.func9, Tryd.ntmps9
  go_wp2_with fail
  refine (ended_any a w (by omega)).mono ?_
  rw [HES.out]
  rintro e w1 ⟨rfl, rfl⟩
  go_wp2_with fail
  refine (named_any nm w (by omega)).mono ?_
  rw [hn]
  rintro e w1 ⟨rfl, rfl⟩
  go_wp2_with fail
  refine (implParse_any a w (by omega) hT).mono ?_
  rw [← HC1.out, ← HF1.out]
  rintro e w1 ⟨B1, n1, p1, rfl, ha1, hb1⟩
  go_wp2_with fail
  refine (implParse_any b w1 (by omega) (hT.below hb1)).mono ?_
  rw [← HC2.out, ← HF2.out]
  rintro e w2 ⟨B2, n2, p2, rfl, ha2, hb2'⟩
  have hb2 := hb1.trans (hb2'.mono hb1.size)
  have hn1 : n1 ≤ 2147483647 := by rw [ha1.1.out]; exact HN1.out
  have hn2 : n2 ≤ 2147483647 := by rw [ha2.1.out]; exact HN2.out
  obtain ⟨w3, hw3⟩ : ∃ w3, w3 = (w2.alloc (.cells #[.string c1, .slice B1 n1 p1] 33)).alloc (.cells #[.string c2, .slice B2 n2 p2] 33) := ⟨_, rfl⟩
  have hr0 : w3.heap[w2.heap.size]? = some (.cells #[.string c1, .slice B1 n1 p1] 33 (0, 0)) := first_of_two (by rw [hw3])
  have hr1 : w3.heap[w2.heap.size + 1]? = some (.cells #[.string c2, .slice B2 n2 p2] 33 (0, 0)) := second_block (by rw [hw3])
  have hb23 : Below w2.heap.size w2 w3 := by
    rw [hw3]
    exact ((Below.refl _ _).alloc (Nat.le_refl _) _).alloc (by simp) _
  have hbw3 := hb2.trans (hb23.mono hb2.size)
  have ha13 := ha1.below (hb2'.trans (hb23.mono hb2'.size))
  have ha23 := ha2.below hb23
  have hlt3 := Lib.lt_of_heap hr1
  have HW3 := Lib.hid hw3
  have hk0 : w3.cell? ⟨w2.heap.size, 0, none⟩ = some (.string c1) := by rw [Lib.cell_of_heap hr0]; rfl
  have hk1 : w3.cell? ⟨w2.heap.size, 1, none⟩ = some (.slice B1 n1 p1) := by rw [Lib.cell_of_heap hr0]; rfl
  have hk2 : w3.cell? ⟨w2.heap.size + 1, 0, none⟩ = some (.string c2) := by rw [Lib.cell_of_heap hr1]; rfl
  have hk3 : w3.cell? ⟨w2.heap.size + 1, 1, none⟩ = some (.slice B2 n2 p2) := by rw [Lib.cell_of_heap hr1]; rfl
  clear hw3 hr0 hr1 hb2' hb23 hb2 hb1 ha1 ha2
  go_upto_region 6 with fail
  rw [← HW3.out]
  go_cut [9] (fun s9 wx => JoinCut w3.heap.size w3 c1 (n1 + 1 + n2) (f1 ++ [(nm.data.toList, c2.data.toList)] ++ f2) s9 wx)
  case first =>
    have R1 : ∀ o, Below w3.heap.size w3 (w3.alloc o) := fun o => (Below.refl _ _).alloc (Nat.le_refl _) o
    have R2 : ∀ o o', Below w3.heap.size w3 ((w3.alloc o).alloc o') := fun o o' => (R1 o).alloc (R1 o).size o'
    have R3 : ∀ o o' o2, Below w3.heap.size w3 (((w3.alloc o).alloc o').alloc o2) := fun o o' o2 => (R2 o o').alloc (R2 o o').size o2
    have P1 : ∀ o, Below w3.heap.size w3 (w3.alloc o).drew := fun o => (R1 o).drew
    have P2 : ∀ o o', Below w3.heap.size w3 ((w3.alloc o).alloc o').drew := fun o o' => (R2 o o').drew
    have P3 : ∀ o o' o2, Below w3.heap.size w3 (((w3.alloc o).alloc o').alloc o2).drew := fun o o' o2 => (R3 o o' o2).drew
    clear R1 R2 R3
    have HS : ∀ W', Below w3.heap.size w3 W' → W'.cell? ⟨w2.heap.size, 0, none⟩ = some (.string c1) ∧ W'.cell? ⟨w2.heap.size, 1, none⟩ = some (.slice B1 n1 p1) ∧ W'.cell? ⟨w2.heap.size + 1, 0, none⟩ = some (.string c2) ∧ W'.cell? ⟨w2.heap.size + 1, 1, none⟩ = some (.slice B2 n2 p2) := fun W' h =>
      ⟨(h.cell (p := ⟨w2.heap.size, 0, none⟩) (by show w2.heap.size < _; omega)).trans hk0, (h.cell (p := ⟨w2.heap.size, 1, none⟩) (by show w2.heap.size < _; omega)).trans hk1, (h.cell (p := ⟨w2.heap.size + 1, 0, none⟩) hlt3).trans hk2, (h.cell (p := ⟨w2.heap.size + 1, 1, none⟩) hlt3).trans hk3⟩
    have HA1 := Lib.hid ha13
    have HA2 := Lib.hid ha23
    clear ha13 ha23 hjz hbw3 hT
    go_region_held3 (fun w' => w'.cell? ⟨w2.heap.size, 0, none⟩ = some (.string c1) ∧ w'.cell? ⟨w2.heap.size, 1, none⟩ = some (.slice B1 n1 p1) ∧ w'.cell? ⟨w2.heap.size + 1, 0, none⟩ = some (.string c2) ∧ w'.cell? ⟨w2.heap.size + 1, 1, none⟩ = some (.slice B2 n2 p2))
      (first | go_keep | exact HS _ hb6 | exact HS _ hb5 | exact HS _ hb4 | exact HS _ (P3 _ _ _) | exact HS _ (P2 _ _) | exact HS _ (P1 _) | exact HS _ (hb4.alloc hb4.size _) | exact HS _ ((hb4.alloc hb4.size _).alloc (hb4.alloc hb4.size _).size _) | exact HS _ (hb5.alloc hb5.size _) | exact HS _ (hb6.alloc hb6.size _) | exact HS _ ((hb6.setCell (Nat.le_refl _) _).setCell (Nat.le_refl _) _) | exact HS _ ((hb6.setCell (Nat.le_succ _) _).setCell (Nat.le_succ _) _) | exact HS _ ((hb6.setCell (Nat.le_succ_of_le (Nat.le_succ _)) _).setCell (Nat.le_succ_of_le (Nat.le_succ _)) _) | exact HS _ ((hb6.setCell (hb4.size) _).setCell (hb4.size) _) | exact HS _ ((hb6.setCell (Nat.le_succ_of_le hb4.size) _).setCell (Nat.le_succ_of_le hb4.size) _) | exact HS _ ((hb6.setCell (hb5.size) _).setCell (hb5.size) _) | exact HS _ (((hb6.alloc hb6.size _).setCell hb6.size _).setCell hb6.size _))
      (first
        | (refine step_cat rfl (.tmp 38) (.tmp 40) 31 rfl w3.heap.size 37 i0 _ 32 Tryd.underlying31 hi hz0 hz1 hz2 rfl _ 0 [] (by rfl) (by first | exact own_made (by first | (simp; done) | (simp; omega)) (by first | (simp; done) | (simp; omega)) | exact (own_made (by first | (simp; done) | (simp; omega)) (by first | (simp; done) | (simp; omega))).alloc _ | exact ((own_made (by first | (simp; done) | (simp; omega)) (by first | (simp; done) | (simp; omega))).alloc _).alloc _) B1 n1 p1 f1 (by rfl) (by first | exact HA1.out.below (P3 _ _ _) | exact HA1.out.below (P2 _ _) | exact HA1.out.below (P1 _)) n1 (by simp) (fileCells f1) (by simp) (by unfold maxLen; omega) (by omega) (by first | exact (P3 _ _ _).size | exact (P2 _ _).size | exact (P1 _).size) ?_; intro F4 fc4 w4 hown4 hbel4 hkeep4 hoth4; have hb4 : Below w3.heap.size w3 w4 := hbel4 _ _ (Nat.le_refl _) (by first | exact P3 _ _ _ | exact P2 _ _ | exact P1 _); have HO4 := Lib.hid hown4; (first | (have z4 : w4.heap[w3.heap.size]? = some (.cells #[.string ⟨#[]⟩, .slice none 0 0] 33 (0, 0)) := hkeep4 _ _ _ _ (by decide) (first_of_two rfl)) | (have z4 : w4.heap[w3.heap.size]? = some (.cells #[.string ⟨#[]⟩, .slice none 0 0] 33 (0, 0)) := hkeep4 _ _ _ _ (by decide) (first_of_three rfl)) | (have z4 : w4.heap[w3.heap.size + 1]? = some (.cells #[.string ⟨#[]⟩, .slice none 0 0] 33 (0, 0)) := hkeep4 _ _ _ _ (by decide) (second_block rfl)) | (have z4 : w4.heap[w3.heap.size + 1]? = some (.cells #[.string ⟨#[]⟩, .slice none 0 0] 33 (0, 0)) := hkeep4 _ _ _ _ (by decide) (mid_block rfl)) | (have z4 : w4.heap[w3.heap.size + 1 + 1]? = some (.cells #[.string ⟨#[]⟩, .slice none 0 0] 33 (0, 0)) := hkeep4 _ _ _ _ (by decide) (third_block rfl)) | skip); (first | (have y4 : w4.heap[w3.heap.size]? = some (.cells #[.string nm, .string c2] 37 (0, 0)) := other_block hoth4 (first_of_two rfl) (by omega)) | (have y4 : w4.heap[w3.heap.size]? = some (.cells #[.string nm, .string c2] 37 (0, 0)) := other_block hoth4 (first_of_three rfl) (by omega)) | (have y4 : w4.heap[w3.heap.size + 1]? = some (.cells #[.string nm, .string c2] 37 (0, 0)) := other_block hoth4 (second_block rfl) (by omega)) | (have y4 : w4.heap[w3.heap.size + 1]? = some (.cells #[.string nm, .string c2] 37 (0, 0)) := other_block hoth4 (mid_block rfl) (by omega)) | (have y4 : w4.heap[w3.heap.size + 1 + 1]? = some (.cells #[.string nm, .string c2] 37 (0, 0)) := other_block hoth4 (third_block rfl) (by omega)) | skip); clear hkeep4 hbel4 hoth4 hown4)
        | (refine step_cat rfl (.tmp 41) (.tmp 46) 31 rfl w3.heap.size 37 i0 _ 32 Tryd.underlying31 hi hz0 hz1 hz2 rfl (.slice F4 n1 fc4) n1 (fileCells f1) (by rfl) (by first | exact HO4.out | exact HO4.out.alloc _ | exact (HO4.out.alloc _).alloc _) _ 1 1 [(nm.data.toList, c2.data.toList)] (by rfl) (by first | exact fargs_file y4 | exact (fargs_file y4).below ((Below.refl _ w4).alloc (Nat.le_refl _) _) | exact fargs_file (heap_alloc_new w4 _) | exact fargs_file (first_of_two rfl) | exact fargs_file (second_block rfl)) (n1 + 1) rfl (fileCells (f1 ++ [(nm.data.toList, c2.data.toList)])) (by simp [fileCells]) (by unfold maxLen; omega) (by omega) (by first | exact hb4.size | exact (hb4.alloc hb4.size _).size | exact ((hb4.alloc hb4.size _).alloc (hb4.alloc hb4.size _).size _).size) ?_; intro F5 fc5 w5 hown5 hbel5 hkeep5 hoth5; have hb5 : Below w3.heap.size w3 w5 := hbel5 _ _ (Nat.le_refl _) (by first | exact hb4 | exact hb4.alloc hb4.size _ | exact (hb4.alloc hb4.size _).alloc (hb4.alloc hb4.size _).size _); have HO5 := Lib.hid hown5; (first | (have z5 := hkeep5 _ _ _ _ (by decide) z4) | (have z5 := hkeep5 _ _ _ _ (by decide) (old_block1 rfl z4)) | (have z5 : w5.heap[w4.heap.size]? = some (.cells #[.string ⟨#[]⟩, .slice none 0 0] 33 (0, 0)) := hkeep5 _ _ _ _ (by decide) (heap_alloc_new w4 _)) | (have z5 : w5.heap[w4.heap.size]? = some (.cells #[.string ⟨#[]⟩, .slice none 0 0] 33 (0, 0)) := hkeep5 _ _ _ _ (by decide) (first_of_two rfl)) | (have z5 : w5.heap[w4.heap.size + 1]? = some (.cells #[.string ⟨#[]⟩, .slice none 0 0] 33 (0, 0)) := hkeep5 _ _ _ _ (by decide) (second_block rfl)) | skip); (first | clear z4 | skip); (first | clear y4 | skip); clear hkeep5 hbel5 hoth5 hown5)
        | (refine step_cat rfl (.tmp 47) (.tmp 49) 31 rfl w3.heap.size 37 i0 _ 32 Tryd.underlying31 hi hz0 hz1 hz2 rfl (.slice F5 (n1 + 1) fc5) (n1 + 1) (fileCells (f1 ++ [(nm.data.toList, c2.data.toList)])) (by rfl) (by first | exact HO5.out | exact HO5.out.alloc _) B2 n2 p2 f2 (by rfl) (by first | exact HA2.out.below hb5 | exact HA2.out.below (hb5.alloc hb5.size _)) (n1 + 1 + n2) rfl (fileCells (f1 ++ [(nm.data.toList, c2.data.toList)] ++ f2)) (by simp [fileCells]) (by unfold maxLen; omega) (by omega) (by first | exact hb5.size | exact (hb5.alloc hb5.size _).size) ?_; intro F6 fc6 w6 hown6 hbel6 hkeep6 hoth6; have hb6 : Below w3.heap.size w3 w6 := hbel6 _ _ (Nat.le_refl _) (by first | exact hb5 | exact hb5.alloc hb5.size _); have HO6 := Lib.hid hown6; (first | (have z6 := hkeep6 _ _ _ _ (by decide) z5) | (have z6 : w6.heap[w5.heap.size]? = some (.cells #[.string ⟨#[]⟩, .slice none 0 0] 33 (0, 0)) := hkeep6 _ _ _ _ (by decide) (heap_alloc_new w5 _)) | skip); (first | (obtain ⟨e0, e1, e2, e3⟩ := new_place z6; have Z6 := Lib.hid z6) | skip); (first | clear z6 | skip); (first | clear z5 | skip); clear hkeep6 hbel6 hoth6 hown6))
    all_goals
      go_wp2_with fail
      go_meet
      first | exact join_end1 Z6.out (by decide) hb6 (Nat.le_refl _) HO6.out | exact join_end1 Z6.out (by decide) hb6 (Nat.le_succ _) HO6.out | exact join_end1 Z6.out (by decide) hb6 (Nat.le_succ_of_le (Nat.le_succ _)) HO6.out | exact join_end1 Z6.out (by decide) hb6 (hb4.size) HO6.out | exact join_end1 Z6.out (by decide) hb6 (Nat.le_succ_of_le hb4.size) HO6.out | exact join_end1 Z6.out (by decide) hb6 (hb5.size) HO6.out | exact join_end2 hb6 hb6.size HO6.out
  case rest =>
    obtain ⟨g, F, fc, rfl, q0, q1, hfa, hgl, hbc⟩ := hcut
    have hbwc : Below w.heap.size w wc := hbw3.trans (hbc.mono hbw3.size)
    have HS2 : ∀ W', Below wc.heap.size wc W' → W'.cell? ⟨g, 0, none⟩ = some (.string c1) ∧ W'.cell? ⟨g, 1, none⟩ = some (.slice F (n1 + 1 + n2) fc) := fun W' h =>
      ⟨(h.cell (p := ⟨g, 0, none⟩) hgl).trans q0, (h.cell (p := ⟨g, 1, none⟩) hgl).trans q1⟩
    have q3 : (⟨#[45, 45, 32]⟩ : ByteArray).size = 3 := rfl
    have q4 : (⟨#[32, 45, 45, 10]⟩ : ByteArray).size = 4 := rfl
    have hadd1 : ∀ W, (Op.stringOp .add a (⟨#[45, 45, 32]⟩ : ByteArray)).run Tryd.prog W = .ok (.string (a ++ (⟨#[45, 45, 32]⟩ : ByteArray))) W := fun W => run_string_add_sum W _ _ (by rw [q3]; omega)
    have hadd2 : ∀ W, (Op.stringOp .add (a ++ (⟨#[45, 45, 32]⟩ : ByteArray)) nm).run Tryd.prog W = .ok (.string (a ++ (⟨#[45, 45, 32]⟩ : ByteArray) ++ nm)) W := fun W => run_string_add_sum W _ _ (by rw [ByteArray.size_append, q3]; omega)
    have hadd3 : ∀ W, (Op.stringOp .add (a ++ (⟨#[45, 45, 32]⟩ : ByteArray) ++ nm) (⟨#[32, 45, 45, 10]⟩ : ByteArray)).run Tryd.prog W = .ok (.string (a ++ (⟨#[45, 45, 32]⟩ : ByteArray) ++ nm ++ (⟨#[32, 45, 45, 10]⟩ : ByteArray))) W := fun W => run_string_add_sum W _ _ (by rw [ByteArray.size_append, ByteArray.size_append, q3, q4]; omega)
    have hadd4 : ∀ W, (Op.stringOp .add (a ++ (⟨#[45, 45, 32]⟩ : ByteArray) ++ nm ++ (⟨#[32, 45, 45, 10]⟩ : ByteArray)) b).run Tryd.prog W = .ok (.string (joinText a nm b)) W := fun W => run_string_add_sum W _ _ (by rw [ByteArray.size_append, ByteArray.size_append, ByteArray.size_append, q3, q4]; omega)
    have HFA := Lib.hid hfa
    clear hfa ha13 ha23 hk0 hk1 hk2 hk3 q3 q4
    go_wp2_with fail
    go_region_held3 (fun w' => w'.cell? ⟨g, 0, none⟩ = some (.string c1) ∧ w'.cell? ⟨g, 1, none⟩ = some (.slice F (n1 + 1 + n2) fc))
      (first | go_keep | exact HS2 _ hb6 | exact HS2 _ hb5 | exact HS2 _ hb4)
      (first
        | (go_at_call 17; refine (implParse_any (joinText a nm b) _ hjz (hT.below (by exact hbwc.drew))).mono ?_; rw [HJ1.out, HJ2.out]; rintro e w4 ⟨B4, n4, p4, rfl, ha4, hb4'⟩; have hb4 : Below wc.heap.size wc w4 := (Below.refl _ wc).drew.trans hb4')
        | (go_at_call 16; refine (same_any c1 B4 F n4 p4 (n1 + 1 + n2) fc (f1 ++ [(nm.data.toList, c2.data.toList)] ++ f2) w4 ha4 (HFA.out.below hb4) (by rw [ha4.1.out, ← HFA.out.1.out]; omega)).mono ?_; rintro e w5 ⟨rfl, hb5'⟩; have hb5 : Below wc.heap.size wc w5 := hb4.trans (hb5'.mono hb4.size))
        | (go_at_call 19; refine (reads_any w5 (hT.below (hbwc.trans (hb5.mono hbwc.size)))).mono ?_; rintro e w6 ⟨rfl, hb6'⟩; have hb6 : Below wc.heap.size wc w6 := hb5.trans (hb6'.mono hb5.size)))
    all_goals
      go_wp2
      go_ret
      exact ⟨rfl, hbwc.trans (hb6.mono hbwc.size)⟩
end Go.Proofs.YtapnkeonffbmoaaDoor.Tx
