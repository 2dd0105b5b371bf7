/-
  The walk of the package's Parse: one marker behind the other, each file's data a slice of the text. Conditions: texts of at most 2^34 bytes; the library's four tables as their initialisers lay them.
-/
import Derived.Test.YtmogecodjiofeaaDoorInf
import Derived.Test.YtmogecodjiofeaaDoorTxD
namespace Go.Proofs.YtmogecodjiofeaaDoor.Tx
open Go Go.RowKit

theorem owns_below {B : Nat} {e : TypeId} {k : Nat} {v : Value} {n : Nat} {xs : List Value} {w w' : World} (h : w.ownsRow B e k v n xs) (hb : Below w.heap.size w w') : w'.ownsRow B e k v n xs :=
  h.kept (row := none) ⟨hb.os, hb.tape, hb.output, hb.size, fun j hj _ => hb.block j hj⟩ (by cases hv : v.ownBlock <;> simp)
theorem first_block {W w : World} {a : Obj} (h : W.heap = (w.alloc a).heap) : W.heap[w.heap.size]? = some a := by
  rw [h]
  exact heap_alloc_new w a
theorem old_block1 {W w : World} {a : Obj} (h : W.heap = (w.alloc a).heap) {r : Nat} {x : Obj} (hx : w.heap[r]? = some x) : W.heap[r]? = some x := by
  have hr := Lib.lt_of_heap hx
  rw [h, Below.heap_alloc _ _ _ hr, hx]
theorem cell_one {w : World} {a : Addr} {v : Value} (h : w.cell? a = some v) (o1 : Obj) : (w.alloc o1).cell? a = some v := Lib.cell?_alloc_marked o1 h

/-- what the round's end needs, out of what the append and the store leave -/
theorem parse_round {w wx w2 w4 : World} {B R k : Nat} {fs : List (Bs × Bs)} {vc vf : Value} {vs : List Value} {c : Bs} {a3 : Obj} {TA TF TU : TypeId} (hTU : TA ≠ TU) (hTF : TF ≠ TU) (hB : B ≤ R)
    (hbv : BV False TU wx vc c) (hown : wx.ownsRow B TF 2 vf k vs) (htc : TCells False TU wx vs fs) (hb : Below B w wx) (hsz : B ≤ wx.heap.size)
    (hw2 : w2.heap = (wx.alloc a3).heap) (hos : w2.os = wx.os) (htp : w2.tape = wx.tape) (hout : w2.output = wx.output)
    {f : Bs × Bs} {s : ByteArray} (hsf : s = S f.1) {A A5 : Option Addr} {n cap n5 c5 : Nat} {d5 : Bs} (hbs : BS False TU wx A n cap f.2) (hb5 : BS False TU wx A5 n5 c5 d5)
    {g cp : Nat} (hown4 : w4.ownsRow B TF 2 (.slice (some ⟨g, 0, none⟩) (k + 1) cp) (k + 1) (vs ++ [.string s, .slice A n cap])) (hgrow : w2.grownBy w4 vf.ownBlock) (hR4 : w4.heap[R]? = some (.cells #[vc, vf] TA (0, 0))) (hne : TA ≠ TF) (W : World) (hW : W.heap = (w4.setCell ⟨R, 1, none⟩ (.slice (some ⟨g, 0, none⟩) (k + 1) cp)).heap) (hWo : W.os = w4.os) (hWt : W.tape = w4.tape) (hWu : W.output = w4.output) :
    ∃ vf' vs', W.heap[R]? = some (.cells #[vc, vf'] TA (0, 0)) ∧ BV False TU W vc c ∧ W.ownsRow B TF 2 vf' (k + 1) vs' ∧ TCells False TU W vs' (fs ++ [f]) ∧ BS False TU W A5 n5 c5 d5 ∧ Below B w W := by
  subst hsf
  have b2 : Below wx.heap.size wx w2 := ⟨hos, htp, hout, by rw [hw2]; simp, fun j hj => by rw [hw2, Below.heap_alloc _ _ _ hj]⟩
  have k2 : Keeps TU wx w2 := Keeps.of_below b2
  have hown2 : w2.ownsRow B TF 2 vf k vs := owns_heap (hown.alloc a3) hw2
  have k4 : Keeps TU w2 w4 := Keeps.of_grown hgrow fun j cs fz hj => own_ne hown2 hj (fun e => hTF e.symm)
  have k5 : Keeps TU w4 (w4.setCell ⟨R, 1, none⟩ (.slice (some ⟨g, 0, none⟩) (k + 1) cp)) := Keeps.of_setCell hR4 hTU _
  have k6 : Keeps TU w4 W := ⟨by rw [hW]; exact k5.size, fun j cs fz hj => by rw [hW]; exact k5.block j cs fz hj⟩
  have kk := (k2.trans k4).trans k6
  refine ⟨.slice (some ⟨g, 0, none⟩) (k + 1) cp, vs ++ [.string (S f.1), .slice A n cap], ?_, hbv.keeps kk, owns_heap (w := w4.setCell ⟨R, 1, none⟩ (.slice (some ⟨g, 0, none⟩) (k + 1) cp)) ?_ hW, ?_, hb5.keeps kk, ?_⟩
  · rw [hW]
    simp [World.setCell, Array.getElem?_modify, hR4]
  · exact ownsRow_setCell_other hown4 (own_ne hown4 hR4 hne).symm _
  · exact (htc.keeps kk).snoc (f := f) (hbs.keeps kk)
  · have hb4 : Below B w w4 := ((hb.trans (b2.mono hsz)).grown hgrow (by have := b2.size; omega) (fun j hj => (hown2.lt j hj).1))
    have hb5 := hb4.setCell (p := ⟨R, 1, none⟩) hB (.slice (some ⟨g, 0, none⟩) (k + 1) cp)
    exact ⟨hWo.trans hb4.os, hWt.trans hb4.tape, hWu.trans hb4.output, by rw [hW]; exact hb5.size, fun j hj => by rw [hW]; exact hb5.block j hj⟩
theorem parse_end {wr : World} {B R k : Nat} {fs : List (Bs × Bs)} {vc vf : Value} {vs : List Value} {c : Bs} {TA TF TU : TypeId} (hblk : wr.heap[R]? = some (.cells #[vc, vf] TA (0, 0))) (hbv : BV False TU wr vc c)
    (hown : wr.ownsRow B TF 2 vf k vs) (htc : TCells False TU wr vs fs) : TArch False TU wr R (c, fs) := by
  obtain ⟨A', n', cap', rfl, hbs⟩ := hbv
  obtain ⟨F, fcap, rfl, hfc, hrow⟩ := Row.of_own hown
  have hkn : k = fs.length := by
    have h1 := htc.1
    have h2 := hown.1
    omega
  exact ⟨Lib.lt_of_heap hblk, A', n', cap', F, k, fcap, vs, by rw [Lib.cell_of_heap hblk]; rfl, hbs, by rw [Lib.cell_of_heap hblk]; rfl, hkn, hfc, hrow, htc⟩
def sliceLen : Value → Nat
  | .slice _ n _ => n
  | _ => 0
def nameLen : Value → Nat
  | .string s => s.size
  | _ => 0
def parseLeft (v0 v4 : Value) : Nat := if nameLen v4 = 0 then 0 else sliceLen v0 + 1
/-- what is left of a text, behind a marker of this name -/
def restOf (nam d : Bs) : List (Bs × Bs) := if nam = [] then [] else (nam, (parse d).1) :: (parse d).2
theorem restOf_step {nam d : Bs} (h : nam ≠ []) : restOf nam d = (nam, (find nm d).1) :: restOf (find nm d).2.1 (find nm d).2.2 := by
  unfold restOf
  rw [if_neg h, parse_find d]
  split <;> rfl
theorem parse_start (l : Bs) : parse l = ((find nm l).1, restOf (find nm l).2.1 (find nm l).2.2) := by
  unfold restOf
  rw [parse_find l]
  split <;> rfl
theorem parse_rel {w W : World} {B R k n n1 n4 c4 : Nat} {A4 : Option Addr} {s' : ByteArray} {fs : List (Bs × Bs)} {nam d l c : Bs} {vc : Value} {TA TF TU : TypeId} (hs : s' = S (find nm d).2.1) (hnam : nam ≠ []) (hP : (parse l).2 = fs ++ restOf nam d) (hkn : k + (n1 + 1) ≤ n)
    (h4 : (find nm d).2.1 ≠ [] → n4 + 1 ≤ n1)
    (h : ∃ vf' vs', W.heap[R]? = some (.cells #[vc, vf'] TA (0, 0)) ∧ BV False TU W vc c ∧ W.ownsRow B TF 2 vf' (k + 1) vs' ∧ TCells False TU W vs' (fs ++ [(nam, (find nm d).1)]) ∧ BS False TU W A4 n4 c4 (find nm d).2.2 ∧ Below B w W) :
    ∃ (nam' d' : Bs) (A1 : Option Addr) (n1 c1 k : Nat) (vc vf : Value) (vs : List Value) (fs : List (Bs × Bs)), Value.slice A4 n4 c4 = .slice A1 n1 c1 ∧ Value.string s' = .string (S nam') ∧ BS False TU W A1 n1 c1 d' ∧
      W.heap[R]? = some (.cells #[vc, vf] TA (0, 0)) ∧ BV False TU W vc c ∧ W.ownsRow B TF 2 vf k vs ∧ TCells False TU W vs fs ∧
      Hid ((parse l).2 = fs ++ restOf nam' d') ∧ Hid (k + (if nam' = [] then 0 else n1 + 1) ≤ n) ∧ Below B w W := by
  obtain ⟨vf', vs', g1, g2, g3, g4, g5, g6⟩ := h
  refine ⟨(find nm d).2.1, (find nm d).2.2, A4, n4, c4, k + 1, vc, vf', vs', _, rfl, by rw [hs], g5, g1, g2, g3, g4, Lib.hid ?_, Lib.hid ?_, g6⟩
  · rw [hP, restOf_step hnam]
    simp
  · by_cases h : (find nm d).2.1 = []
    · rw [if_pos h]; omega
    · rw [if_neg h]
      have := h4 h
      omega
theorem parse_less {A A' : Option Addr} {n1 c1 n4 c4 : Nat} {s s' : ByteArray} {nam nam' : Bs} (hs : s = S nam) (hnam : nam ≠ []) (hs' : s' = S nam') (h4 : nam' ≠ [] → n4 + 1 ≤ n1) : parseLeft (.slice A' n4 c4) (.string s') < parseLeft (.slice A n1 c1) (.string s) := by
  subst hs hs'
  have h1 : ¬ nam.length = 0 := fun h => hnam (List.eq_nil_of_length_eq_zero h)
  unfold parseLeft nameLen sliceLen
  simp only [S_size]
  rw [if_neg h1]
  by_cases h : nam' = []
  · subst h
    simp
  · have := h4 h
    split <;> omega

set_option maxHeartbeats 8000000 in
set_option maxRecDepth 100000 in
theorem txParse_any (A : Option Addr) (n cap : Nat) (l : Bs) (w : World) (h1 : BS False 5 w A n cap l) (hn : n ≤ 17179869184) (hT : Tabs w) :
    Calls Tryd.prog 23 #[.slice A n cap] w fun e w' => ∃ b, e = .returned (.pointer (some ⟨b, 0, none⟩)) ∧ TArch False 5 w' b (parse l) ∧ Below w.heap.size w w' := by
  obtain ⟨i0, hi, hz0, hz1, hz2⟩ := info_parts infoTF
  have hb0 : ∀ o, Below w.heap.size w (w.alloc o) := fun o => (Below.refl _ _).alloc (Nat.le_refl _) o
  go_enter Tryd.func23, Tryd.ntmps23
  go_wp2_with fail
  refine (find_any A n cap l _ (h1.below (hb0 _)) (by omega) (hT.below (hb0 _))).mono ?_
  rintro e w2 ⟨A1, n1, c1, A2, n2, c2, s, rfl, HB1, HB2, HS, hn1, hn2, hb2'⟩
  have hR2 : w2.heap[w.heap.size]? = some (.cells #[.slice none 0 0, .slice none 0 0] 45 (0, 0)) := by
    rw [hb2'.block _ (by simp), heap_alloc_new w _]
  have hb2 : Below w.heap.size w w2 := (hb0 _).trans (hb2'.mono (hb0 _).size)
  have hR0 : w2.cell? ⟨w.heap.size, 0, none⟩ = some (.slice none 0 0) := by rw [Lib.cell_of_heap hR2]; rfl
  have hRf : w2.frozen? ⟨w.heap.size, 0, none⟩ = false := by simp [World.frozen?, hR2]
  have HR2 := Lib.hid hR2
  clear hR2
  go_wp2_with fail
  go_loopw [0, 4] (fun v0 v4 wr => ∃ (nam d : Bs) (A1 : Option Addr) (n1 c1 k : Nat) (vc vf : Value) (vs : List Value) (fs : List (Bs × Bs)), v0 = .slice A1 n1 c1 ∧ v4 = .string (S nam) ∧ BS False 5 wr A1 n1 c1 d ∧
      wr.heap[w.heap.size]? = some (.cells #[vc, vf] 45 (0, 0)) ∧ BV False 5 wr vc (find nm l).1 ∧ wr.ownsRow w.heap.size 47 2 vf k vs ∧ TCells False 5 wr vs fs ∧
      Hid ((parse l).2 = fs ++ restOf nam d) ∧ Hid (k + (if nam = [] then 0 else n1 + 1) ≤ n) ∧ Below w.heap.size w wr) (fun v0 v4 _ => parseLeft v0 v4)
  case atStart =>
    have kk : Keeps 5 w2 (w2.setCell ⟨w.heap.size, 0, none⟩ (.slice A1 n1 c1)) := Keeps.of_setCell HR2.out (by decide) _
    refine ⟨(find nm l).2.1, (find nm l).2.2, A2, n2, c2, 0, .slice A1 n1 c1, .slice none 0 0, [], [], rfl, congrArg Value.string HS.out, HB2.keeps kk, ?_, ⟨_, _, _, rfl, HB1.keeps kk⟩, World.ownsRow_nil _ _ _ _, TCells.nil _ _ _, Lib.hid ?_, Lib.hid ?_, hb2.setCell (Nat.le_refl _) _⟩
    · have := HR2.out
      simp [World.setCell, Array.getElem?_modify, this]
    · rw [parse_start]; rfl
    · by_cases h : (find nm l).2.1 = []
      · rw [if_pos h]; omega
      · rw [if_neg h]
        have h5 := find_shorter h
        have h6 := HB2.len.out
        have h7 := h1.len.out
        omega
  case round =>
    obtain ⟨nam, d, A1, n1, c1, k, vc, vf, vs, fs, rfl, rfl, HD, hblk, HBV, hown, HTC, HP, HK, hb⟩ := hrel
    obtain ⟨s4, hs4⟩ : ∃ s4, s4 = S nam := ⟨_, rfl⟩
    rw [← hs4]
    by_cases hnam : nam = []
    · have hse : s4.toList.isEmpty = true := by rw [hs4, hnam, Lib.toList_data, S_data]; rfl
      have HE := Lib.hid (p := parse l = ((find nm l).1, fs)) (by
        have h5 := HP.out
        rw [hnam, restOf, if_pos rfl, List.append_nil] at h5
        rw [← h5, parse_start])
      have HB := Lib.hid hblk
      have HOWN := Lib.hid hown
      clear hblk hown hnam hs4
      go_wp2
      go_ret
      exact ⟨_, rfl, by rw [HE.out]; exact parse_end HB.out HBV HOWN.out HTC, hb⟩
    · have hse : s4.toList.isEmpty = false := by rw [hs4]; exact S_nonempty hnam
      have hkn : k + (n1 + 1) ≤ n := by
        have := HK.out
        rw [if_neg hnam] at this
        exact this
      have HNAM := Lib.hid hnam
      have HS4 := Lib.hid hs4
      have hsz := hb.size
      have HB := Lib.hid hblk
      have HOWN := Lib.hid hown
      clear hblk hown hnam hs4
      have hb9 : ∀ o, Below w.heap.size w (wr.alloc o) := fun o => hb.alloc hsz o
      go_wp2_with fail
      refine (find_any A1 n1 c1 d _ (HD.below ((Below.refl _ _).alloc (Nat.le_refl _) _)) (by omega) (hT.below (hb9 _))).mono ?_
      rintro e w6 ⟨A3, n3, c3, A4, n4, c4, s', rfl, HB3, HB4, HS', hn3, hn4, hb6⟩
      have hF6 : w6.heap[wr.heap.size]? = some (.cells #[.string s4, .slice none 0 0] 47 (0, 0)) := by
        rw [hb6.block _ (by simp), heap_alloc_new wr _]
      have hF1 : w6.cell? ⟨wr.heap.size, 1, none⟩ = some (.slice none 0 0) := by rw [Lib.cell_of_heap hF6]; rfl
      have hFf : w6.frozen? ⟨wr.heap.size, 1, none⟩ = false := by simp [World.frozen?, hF6]
      have hbr6 : Below wr.heap.size wr w6 := ((Below.refl _ _).alloc (Nat.le_refl _) _).trans (hb6.mono (by simp))
      have HF6 := Lib.hid hF6
      have kk : Keeps 5 w6 (w6.setCell ⟨wr.heap.size, 1, none⟩ (.slice A3 n3 c3)) := Keeps.of_setCell hF6 (by decide) _
      clear hF6
      go_wp2_with fail
      obtain ⟨wx, hwx⟩ : ∃ wx, wx = w6.setCell ⟨wr.heap.size, 1, none⟩ (.slice A3 n3 c3) := ⟨_, rfl⟩
      rw [← hwx]
      have hbx : Below wr.heap.size wr wx := by rw [hwx]; exact hbr6.setCell (Nat.le_refl _) _
      have hbxw : Below w.heap.size w wx := hb.trans (hbx.mono hsz)
      have hFx : wx.heap[wr.heap.size]? = some (.cells #[.string s4, .slice A3 n3 c3] 47 (0, 0)) := by
        have := HF6.out
        rw [hwx]
        simp [World.setCell, Array.getElem?_modify, this]
      have hRx : wx.heap[w.heap.size]? = some (.cells #[vc, vf] 45 (0, 0)) := by
        rw [hbx.block _ (Lib.lt_of_heap HB.out)]
        exact HB.out
      have HOWNx := Lib.hid (owns_below HOWN.out hbx)
      have HBVx : BV False 5 wx vc (find nm l).1 := HBV.keeps (Keeps.of_below hbx)
      have HTCx : TCells False 5 wx vs fs := HTC.below hbx
      have HB3x : BS False 5 wx A3 n3 c3 (find nm d).1 := by rw [hwx]; exact HB3.keeps kk
      have HB4x : BS False 5 wx A4 n4 c4 (find nm d).2.2 := by rw [hwx]; exact HB4.keeps kk
      have hszx := hbxw.size
      have hld : wx.cell? ⟨w.heap.size, 1, none⟩ = some vf := by rw [Lib.cell_of_heap hRx]; rfl
      have hl0 : wx.cell? ⟨wr.heap.size, 0, none⟩ = some (.string s4) := by rw [Lib.cell_of_heap hFx]; rfl
      have hl1 : wx.cell? ⟨wr.heap.size, 1, none⟩ = some (.slice A3 n3 c3) := by rw [Lib.cell_of_heap hFx]; rfl
      have hld' := fun o => cell_one hld o
      have hl0' := fun o => cell_one hl0 o
      have hl1' := fun o => cell_one hl1 o
      have HRX := Lib.hid hRx
      have HN4 := Lib.hid (p := (find nm d).2.1 ≠ [] → n4 + 1 ≤ n1) (fun h => by
        have h5 := find_shorter h
        rw [HB4.len.out, HD.len.out]
        exact h5)
      clear hwx kk HF6 HB3 HB4 hF1 hFf hRx hFx HB HOWN HBV HTC hbr6 hb6 HR2 hR0 hRf HB1 HB2 HS
      go_region_law (refine step_push rfl (.tmp 31) (.tmp 33) 43 rfl w.heap.size 47 i0 _ 40 Tryd.underlying43 hi hz0 hz1 hz2 rfl vf k vs rfl (owns_heap (HOWNx.out.alloc _) rfl) _ _ rfl _ _ _ _ (first_block rfl) ⟨rfl, rfl⟩ (by unfold maxLen; omega) (by omega) (by simp; omega) _ _ _ (old_block1 rfl HRX.out) (by decide) vf rfl ?_; intro g cp w4 hown4 hgrow4 hR4 hc4 hf4)
      all_goals
        have HG4 := Lib.hid hgrow4
        have HO4 := Lib.hid hown4
        have HR4 := Lib.hid hR4
        clear hgrow4 hown4 hR4
        go_wp2
        go_roundw
        case rel =>
          refine parse_rel (vc := vc) HS'.out HNAM.out HP.out hkn HN4.out ?_
          exact parse_round (f := (nam, (find nm d).1)) (by decide) (by decide) (Nat.le_refl _) HBVx HOWNx.out HTCx hbxw hszx (by rfl) (by rfl) (by rfl) (by rfl) HS4.out HB3x HB4x HO4.out HG4.out HR4.out (by decide) _ (by rfl) (by rfl) (by rfl) (by rfl)
        case measure => exact parse_less HS4.out HNAM.out HS'.out HN4.out
end Go.Proofs.YtmogecodjiofeaaDoor.Tx
