/-
  The walk of impl.Parse: a text is made into an archive of strings. Conditions: texts of at most 2^34 bytes; the library's four tables as their initialisers lay them.
-/
import Derived.Test.YtmogecodjiofeaaDoorTxE
import Derived.Test.YtmogecodjiofeaaDoorFA
import Derived.Laws.Rows
namespace Go.Proofs.YtmogecodjiofeaaDoor.Tx
open Go Go.RowKit

theorem infoIF : (Tryd.prog.info? 26).map (fun i => (i.zero, i.size, i.bytes)) = some (some (.agg #[.string ⟨#[]⟩, .string ⟨#[]⟩]), 2, 32) := by kernel_rfl

/-- 'step_push' at the list of a plain region's operations -/
theorem list_push {P : Program} {W : World} {ops : Array Oper} {rest : List Oper} {o : Oper} {a : Act} {Q : Exit → Act → World → Prop} (hgd : o.guard = none) (s x : Operand) (t : TypeId)
    (ho : o.op = .call { callee := .builtin .append, args := #[s, x], argTypes := #[t, t] })
    (base : Nat) (e : TypeId) (i : TypeInfo) (z : Value) (bytes : Nat) (ht : P.underlying t = some (.slice e)) (hi : P.info? e = some i) (hz : i.zero = some z)
    (hsize : i.size = 2) (hby : i.bytes = bytes) (hzs : z.cells.size = 2)
    (v : Value) (n : Nat) (xs : List Value) (hs : a.eval s = v) (hown : W.ownsRow base e 2 v n xs)
    (B c : Nat) (hx : a.eval x = .slice (some ⟨B, 0, none⟩) 1 c) (u1 u2 : Value) (tt : TypeId) (fr : Nat × Nat) (hblk : W.heap[B]? = some (.cells #[u1, u2] tt fr)) (h1 : u1.oneCell' = true ∧ u2.oneCell' = true)
    (h63 : n + 1 ≤ maxLen) (hbytes : (n + 1) * bytes ≤ 140737488355328) (hbase : base ≤ W.heap.size)
    (R : Nat) (cs : Array Value) (T : TypeId) (hR : W.heap[R]? = some (.cells cs T (0, 0))) (hT : T ≠ e) (old : Value) (hold : cs[1]? = some old)
    (h : ∀ g cap w', w'.ownsRow base e 2 (.slice (some ⟨g, 0, none⟩) (n + 1) cap) (n + 1) (xs ++ [u1, u2]) → W.grownBy w' v.ownBlock → w'.heap[R]? = some (.cells cs T (0, 0)) →
      w'.cell? ⟨R, 1, none⟩ = some old → w'.frozen? ⟨R, 1, none⟩ = false → wpList P ops Q rest (a.put o.dst (.slice (some ⟨g, 0, none⟩) (n + 1) cap)) w') :
    wpList P ops Q (o :: rest) a W := by
  refine wpList_append_lies W hgd s x t ho base e i z 2 bytes ht hi hz hsize hby hzs (by decide) v n xs hs hown ⟨B, 0, none⟩ 1 c [u1, u2] hx rfl (World.news_of_block hblk) ?_ (by decide) h63 hbytes hbase _ rfl ?_
  · intro u hu
    simp at hu
    rcases hu with rfl | rfl
    · exact h1.1
    · exact h1.2
  · intro g cap w' hown' hgrow _ _
    have hR' : w'.heap[R]? = some (.cells cs T (0, 0)) := (hgrow.block R (Lib.lt_of_heap hR) (own_ne hown hR hT)).trans hR
    refine h g cap w' hown' hgrow hR' ?_ ?_
    · rw [Lib.cell_of_heap hR']; exact hold
    · simp [World.frozen?, hR']

set_option maxHeartbeats 8000000 in
set_option maxRecDepth 100000 in
theorem implParse_any (t : ByteArray) (w : World) (hl : t.size ≤ 17179869184) (hT : Tabs w) :
    Calls Tryd.prog 15 #[.string t] w fun e w' => ∃ A n cap, e = .returned (.agg #[.string (S (parse t.data.toList).1), .slice A n cap]) ∧ FArgs w' A n cap (parse t.data.toList).2 ∧ Below w.heap.size w w' := by
  obtain ⟨i0, hi, hz0, hz1, hz2⟩ := info_parts infoIF
  have hcv := fun (u : World) (s : ByteArray) => run_bytes_of_string (P := Tryd.prog) u 9 42 5 s Tryd.underlying9 Tryd.underlying42 Tryd.underlying5
  have hb1 : ∀ o, Below w.heap.size w (w.alloc o) := fun o => (Below.refl _ _).alloc (Nat.le_refl _) o
  have hb2 : ∀ o o2, Below w.heap.size w (((w.alloc o).alloc o2).drew) := fun o o2 => (((hb1 o).alloc (by simp) o2)).drew
  go_enter Tryd.func15, Tryd.ntmps15
  go_wp2_with fail
  refine (txParse_any _ _ _ t.data.toList _ (by exact (BS.of_block (second_block rfl) (grownCap_ge _ _ _ _)).free) hl (by exact hT.below (hb2 _ _))).mono ?_
  rintro e w2 ⟨b, rfl, hta, hb2'⟩
  have hR2 : w2.heap[w.heap.size]? = some (.cells #[.string ⟨#[]⟩, .slice none 0 0] 29 (0, 0)) := by
    rw [hb2'.block _ (by simp; omega)]
    exact (Below.heap_alloc _ _ _ (by simp)).trans (heap_alloc_new w _)
  have hbw : Below w.heap.size w w2 := (hb2 _ _).trans (hb2'.mono (hb2 _ _).size)
  obtain ⟨hblt, A1, n1, c1, F, m, fcap, vs, k0, hbs, k1, hm, hmf, hrow, htc⟩ := hta
  have hst := fun o => (hbs.below ((Below.refl _ w2).alloc (Nat.le_refl _) o)).rb.strN (P := Tryd.prog) hbs.len 42 5 9 Tryd.underlying42 Tryd.underlying5 Tryd.underlying9 c1
  have hst0 := hbs.rb.strN (P := Tryd.prog) hbs.len 42 5 9 Tryd.underlying42 Tryd.underlying5 Tryd.underlying9 c1
  have HR2 := Lib.hid hR2
  have hmle : m ≤ 17179869184 := by
    rw [hm.out]
    have := files_count t.data.toList
    rw [size_list] at this
    omega
  clear hR2
  go_wp2_with fail
  obtain ⟨fs, hfs⟩ : ∃ fs, fs = (parse t.data.toList).2 := ⟨_, rfl⟩
  obtain ⟨cs, hcs⟩ : ∃ cs, cs = S (parse t.data.toList).1 := ⟨_, rfl⟩
  rw [← hfs] at hm htc
  have HCS := Lib.hid hcs
  have HFS := Lib.hid hfs
  clear hfs
  clear hcs
  go_loopw [21] (fun i wr => ∃ (k : Nat) (vf : Value), k ≤ m ∧ i = .int .i64 k ∧ wr.heap[w2.heap.size]? = some (.cells #[.string cs, vf] 29 (0, 0)) ∧
      wr.ownsRow w2.heap.size 26 2 vf k (fileCells (fs.take k)) ∧ Below w2.heap.size w2 wr) (fun i _ => m - (intOf i).toNat)
  case atStart =>
    refine ⟨0, _, by omega, rfl, ?_, World.ownsRow_nil _ _ _ _, (Below.refl _ _).alloc (Nat.le_refl _) _⟩
    rw [HCS.out]
    exact heap_alloc_new w2 _
  case round =>
    obtain ⟨k, vf, hk, rfl, hblk, hown, hb⟩ := hrel
    have hsz := hb.size
    by_cases hlt : k < m
    · have hkl : k < fs.length := by rw [← hm.out]; exact hlt
      obtain ⟨fb, off, s, A', n', cap', rfl, hfb, hc1, hc2, hs, hbs'⟩ := row_tfile (hrow.below hb) (htc.below hb) hkl
      have hlt2 : w2.heap.size < wr.heap.size := Lib.lt_of_heap hblk
      have hld : wr.cell? ⟨w2.heap.size, 1, none⟩ = some vf := by rw [Lib.cell_of_heap hblk]; rfl
      have hld2 := fun o => cell_one hld o
      have hsn := fun o => (hbs'.below ((Below.refl _ wr).alloc (Nat.le_refl _) o)).rb.strN (P := Tryd.prog) hbs'.len 42 5 9 Tryd.underlying42 Tryd.underlying5 Tryd.underlying9 cap'
      obtain ⟨s2, hs2⟩ : ∃ s2, s2 = S fs[k].2 := ⟨_, rfl⟩
      rw [← hs2] at hsn
      have HS := Lib.hid hs
      have HS2 := Lib.hid hs2
      have HB := Lib.hid hblk
      have HOWN := Lib.hid hown
      clear hblk hown hs hs2
      go_wp2_with (at_builtin; refine list_push rfl (.tmp 26) (.tmp 33) 27 rfl w2.heap.size 26 i0 _ 32 Tryd.underlying27 hi hz0 hz1 hz2 rfl vf k (fileCells (fs.take k)) rfl (owns_heap ((HOWN.out.alloc _).alloc _) rfl) _ _ rfl _ _ _ _ (second_block rfl) ⟨rfl, rfl⟩ (by unfold maxLen; omega) (by omega) (by simp; omega) _ _ _ (old_block2 rfl HB.out) (by decide) vf rfl ?_; intro g cp w4 hown4 hgrow4 hR4 hc4 hf4)
      have HG4 := Lib.hid hgrow4
      have HO4 := Lib.hid hown4
      have HR4 := Lib.hid hR4
      clear hgrow4 hown4 hR4
      go_wp2
      go_roundw
      case rel =>
        refine ⟨k + 1, .slice (some ⟨g, 0, none⟩) (k + 1) cp, by omega, by go_num, ?_, ?_, ?_⟩
        · have := HR4.out
          simp [World.setCell, Array.getElem?_modify, this]
        · rw [List.take_succ_eq_append_getElem hkl, fileCells_snoc]
          have := HO4.out
          rw [HS2.out, show s = S fs[k].1 by rw [← HS.out]; exact (S_of s).symm] at this
          exact ownsRow_setCell_other this (own_ne this HR4.out (by decide)).symm _
        · have hb4 := ((hb.alloc hsz _).alloc (by simp; omega) _).grown HG4.out (by simp; omega) (fun j hj => (HOWN.out.lt j hj).1)
          exact hb4.setCell (p := ⟨w2.heap.size, 1, none⟩) (Nat.le_refl _) _
      case measure => simp [intOf]; omega
    · have hke : k = m := by omega
      subst hke
      have hR5 : wr.heap[w.heap.size]? = some (.cells #[.string ⟨#[]⟩, .slice none 0 0] 29 (0, 0)) := (hb.block _ (Lib.lt_of_heap HR2.out)).trans HR2.out
      have hd0 : wr.cell? ⟨w2.heap.size, 0, none⟩ = some (.string cs) := by rw [Lib.cell_of_heap hblk]; rfl
      have hd1 : wr.cell? ⟨w2.heap.size, 1, none⟩ = some vf := by rw [Lib.cell_of_heap hblk]; rfl
      have hs0 : wr.cell? ⟨w.heap.size, 0, none⟩ = some (.string ⟨#[]⟩) := by rw [Lib.cell_of_heap hR5]; rfl
      have hs1 : wr.cell? ⟨w.heap.size, 1, none⟩ = some (.slice none 0 0) := by rw [Lib.cell_of_heap hR5]; rfl
      have hf0 : wr.frozen? ⟨w.heap.size, 0, none⟩ = false := by simp [World.frozen?, hR5]
      have hf1 : wr.frozen? ⟨w.heap.size, 1, none⟩ = false := by simp [World.frozen?, hR5]
      have hne := own_ne hown hR5 (by decide)
      have hown9 := fun x y => ownsRow_setCell_other (a := ⟨w.heap.size, 1, none⟩) (ownsRow_setCell_other (a := ⟨w.heap.size, 0, none⟩) hown hne.symm x) hne.symm y
      obtain ⟨F5, fc5, rfl, hfc5, -⟩ := Row.of_own hown
      have HB := Lib.hid hblk
      have HR5 := Lib.hid hR5
      clear hblk hown hR5
      go_wp2
      (try simp only [Exit.inBlock, Exit.then])
      have hR9 : ((wr.setCell ⟨w.heap.size, 0, none⟩ (.string cs)).setCell ⟨w.heap.size, 1, none⟩ (.slice F5 k fc5)).heap[w.heap.size]? = some (.cells #[.string cs, .slice F5 k fc5] 29 (0, 0)) := by
        have := HR5.out
        simp [World.setCell, Array.getElem?_modify, this]
      refine bodyPost_ret (results_cell_row rfl _ _ w.heap.size 29 _ (0, 0) _ rfl hR9 Tryd.underlying29 rfl (by kernel_rfl)) rfl ?_
      refine ⟨F5, k, fc5, by rw [HCS.out], ?_, ?_⟩
      · rw [← HFS.out]
        obtain ⟨A9, c9, he9, hc9, hrow9⟩ := Row.of_own (hown9 (.string cs) (.slice F5 k fc5))
        have e1 : A9 = F5 := by simpa using (congrArg (fun v => match v with | Value.slice a _ _ => a | _ => none) he9).symm
        subst e1
        rw [List.take_of_length_le (by rw [← hm.out]; exact Nat.le_refl _)] at hrow9
        exact ⟨hm, hfc5, hrow9⟩
      · exact ((hbw.trans (hb.mono hbw.size)).setCell (Nat.le_refl _) _).setCell (Nat.le_refl _) _
end Go.Proofs.YtmogecodjiofeaaDoor.Tx
