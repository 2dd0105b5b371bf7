/-
  The walk of the package's Format, over its buffer: it returns a slice of the bytes that the plain layer's format says. Conditions: the whole at most 2^40 bytes, each name and text at most 2^32.
-/
import Derived.Test.YtoojofakgjmagaaDoorShelf
import Derived.Test.YtoojofakgjmagaaDoorTxA
import Derived.Test.YtoojofakgjmagaaDoorFiles
import Derived.Test.YtoojofakgjmagaaDoorLaws
import Derived.Lib.BufferKept
import Derived.WalkLawsBesides
namespace Go.Proofs.YtoojofakgjmagaaDoor.Tx
open Go Go.RowKit

theorem isBuffer_below {T e : TypeId} {B b : Nat} {bs : List Value} {w w' : World} (h : Lib.IsBuffer T e B b bs w) (hb : Below w.heap.size w w') : Lib.IsBuffer T e B b bs w' := by
  have hlt := h.lt
  obtain ⟨hB, v, lr, hbk, hown, hne⟩ := h
  refine ⟨hB, v, lr, (hb.block b hlt).trans hbk, ?_, hne⟩
  obtain ⟨hl, h⟩ := hown
  refine ⟨hl, ?_⟩
  rcases h with h | ⟨g, cap, cur, h1, h2, h3, h4⟩
  · exact .inl h
  · exact .inr ⟨g, cap, cur, h1, h2, (hb.block g (Lib.lt_of_heap h3)).trans h3, h4⟩
theorem isBuffer_ne {T e : TypeId} {B b : Nat} {bs : List Value} {w : World} (h : Lib.IsBuffer T e B b bs w) (hT : T ≠ e) {a : Addr} (ha : HeldO e w (some a)) : a.block ≠ b := by
  obtain ⟨_, v, lr, hbk, _⟩ := h
  obtain ⟨cs, fz, hc⟩ := ha a rfl
  intro he
  rw [he, hbk] at hc
  simp at hc
  exact hT hc.2.1
theorem bs_of_own {e : TypeId} {w : World} {B : Nat} {v : Value} {l : Bs} (h : w.ownsRow B e 1 v (Lib.byteCells l).length (Lib.byteCells l)) : ∃ A n cap, v = .slice A n cap ∧ BS False e w A n cap l := by
  have hl : (Lib.byteCells l).length = l.length := Lib.byteCells_length l
  obtain ⟨A, cap, rfl, hc, hr⟩ := Row.of_own h
  refine ⟨A, _, cap, rfl, hl, hc, fun hf => hf.elim, ?_, fun hne => ?_⟩
  · rcases h.2 with ⟨he, _⟩ | ⟨g, cap', cur, he, _, hg, _⟩
    · simp at he
      rw [he.1]
      exact HeldO.none_ _ _
    · simp at he
      rw [he.1]
      exact HeldO.of_block hg
  · obtain ⟨b, o, ea, hb, hx⟩ := hr (by intro h0; exact hne (List.eq_nil_of_length_eq_zero (by rw [← hl, h0]; rfl)))
    refine ⟨b, o, ea, hb, fun i x hi => hx i _ ?_⟩
    unfold Lib.byteCells
    rw [List.getElem?_map, hi]
    rfl
theorem cells_rb {w : World} {a : Addr} {l : Bs} (h : RB w (some a) l) : ∀ (j : Nat) v, (Lib.byteCells l)[j]? = some v → w.cell? (a.add j) = some v := h.cells
theorem bytes_app (a b : Bs) : Lib.byteCells a ++ Lib.byteCells b = Lib.byteCells (a ++ b) := (Lib.byteCells_append a b).symm

set_option maxHeartbeats 3200000 in
set_option maxRecDepth 100000 in
theorem txFormat_any (b : Nat) (c : Bs) (fs : List (Bs × Bs)) (w : World) (ha : TArch True 5 w b (c, fs)) (hc : Hid (c.length ≤ 4294967296)) (hfs : Hid (∀ f ∈ fs, f.1.length ≤ 4294967296 ∧ f.2.length ≤ 4294967296)) (htot : Hid ((format (c, fs)).length ≤ 1099511627776)) (hn64 : Hid (fs.length ≤ 4294967296)) :
    Calls Tryd.prog 26 #[.pointer (some ⟨b, 0, none⟩)] w fun e w' => ∃ A n cap, e = .returned (.slice A n cap) ∧ BS False 5 w' A n cap (format (c, fs)) ∧ Below w.heap.size w w' := by
  obtain ⟨hblt, A, n, cap, F, m, fcap, vs, h1, h2, h3, h4, h5, h6, h7⟩ := ha
  have hI0 := Lib.hid (Lib.fresh_isBuffer 54 5 w)
  have hb0 : Below w.heap.size w (w.alloc (.cells #[.slice none 0 0, .int .i64 0, .int .i8 0] 54)) := (Below.refl _ w).alloc (Nat.le_refl _) _
  go_enter Tryd.func26, Tryd.ntmps26
  go_wp2_with fail
  refine (fixNL_any True A n cap c _ (h2.below hb0) (by have h := h2.len.out; have h' := hc.out; omega)).mono ?_
  rintro e w1 ⟨A1, n1, cap1, rfl, hs1, hb1⟩
  obtain ⟨a1, rfl⟩ : ∃ a1, A1 = some a1 := Option.ne_none_iff_exists'.1 (hs1.some_ trivial)
  have hB1 := hb0.size
  have i1 := Lib.hid (isBuffer_below hI0.out hb1)
  have hlen1 : Hid (n1 ≤ 1099511627776) := by
    have g1 := htot.out
    have g2 := hs1.len.out
    unfold format at g1
    rw [List.length_append] at g1
    show n1 ≤ 1099511627776
    simp only at g1
    omega
  go_wp2_with fail
  refine (Tryd.Buffer_Write_any w.heap.size w.heap.size [] (Lib.byteCells (ended c)) a1 n1 cap1 w1 i1.out (by have := hb1.size; omega) (by simp) (by rw [Lib.byteCells_length]; exact hs1.len.out.symm) (isBuffer_ne i1.out (by decide) hs1.held) (cells_rb hs1.rb) (Lib.byteCells_one _) (by have := hlen1.out; simp; omega)).mono ?_
  rintro e w2 ⟨rfl, i2, hb2, -⟩
  have hbw2 : Below w.heap.size w w2 := (hb0.trans (hb1.mono hB1)).trans hb2
  have i2 := Lib.hid i2
  clear hb1 hb2 i1 hlen1 hs1
  have k1 : w2.cell? ⟨b, 1, none⟩ = some (.slice F m fcap) := (hbw2.cell hblt).trans h3
  go_wp2_with fail
  go_loopw [17] (fun i wr => ∃ k : Nat, k ≤ m ∧ i = .int .i64 k ∧ Lib.IsBuffer 54 5 w.heap.size w.heap.size (Lib.byteCells (format (c, fs.take k))) wr ∧ Below w.heap.size w wr) (fun i _ => m - (intOf i).toNat)
  case atStart => exact ⟨0, by omega, rfl, by simpa [format] using i2.out, hbw2⟩
  case round =>
    obtain ⟨k, hk, rfl, hbuf, hb⟩ := hrel
    have hsz := hb.size
    have hlen : Hid ((format (c, fs.take k)).length ≤ 1099511627776) := Nat.le_trans (format_take_le _ _ _) htot.out
    have hm : Hid (m ≤ 4294967296) := by
      have g1 := hn64.out
      have g2 := h4.out
      show m ≤ 4294967296
      omega
    have hm' := hm.out
    by_cases hlt : k < m
    · have hkl : k < fs.length := by rw [← h4.out]; exact hlt
      obtain ⟨bb, off, s, A', n', cap', rfl, hbw, hc1', hc2', hs, hbs⟩ := row_tfile h6 h7 hkl
      have hc1 := (hb.cell (p := ⟨bb, off + k * 2, none⟩) hbw).trans hc1'
      have hc2 := (hb.cell (p := ⟨bb, off + k * 2 + 1, none⟩) hbw).trans hc2'
      have hdl : Hid (fs[k].2.length ≤ 4294967296) := (hfs.out _ (List.getElem_mem hkl)).2
      clear hc1' hc2'
      have hls : s.size ≤ 4294967296 := by rw [← size_list, hs]; exact (hfs.out _ (List.getElem_mem hkl)).1
      have HS := Lib.hid hs
      have HBUF := Lib.hid hbuf
      clear hs hbuf i2
      go_wp2_with fail
      refine (Tryd.Buffer_WriteString_kept w.heap.size w.heap.size _ _ _ (HBUF.out.alloc _) (by simp; omega) (Lib.byteCells_one _) ?_).mono ?_
      · rw [Lib.byteCells_length]
        have := hlen.out
        have q1 : (⟨#[45, 45, 32]⟩ : ByteArray).size = 3 := rfl
        have q2 : (⟨#[32, 45, 45, 10]⟩ : ByteArray).size = 4 := rfl
        simp only [ByteArray.size_append, q1, q2]
        omega
      rintro e w3 ⟨rfl, i3, hb3, o3⟩
      have hn3 : w3.heap[wr.heap.size]? = some (.cells #[.string s, .slice A' n' cap'] 49 (0, 0)) := o3 _ _ (heap_alloc_new wr _) (by have := HBUF.out.lt; simp; omega) (fun cs fz h => by simp at h)
      have l0 : w3.cell? ⟨wr.heap.size, 1, none⟩ = some (.slice A' n' cap') := by rw [Lib.cell_of_heap hn3]; rfl
      have hbr3 : Below w.heap.size w w3 := (hb.alloc hsz _).trans hb3
      have i3 := Lib.hid i3
      clear hb3 o3
      go_wp2_with fail
      refine (fixNL_any True A' n' cap' fs[k].2 _ (hbs.below hbr3) (by have h := hbs.len.out; have h' := hdl.out; omega)).mono ?_
      rintro e w4 ⟨A4, n4, cap4, rfl, hs4, hb4⟩
      obtain ⟨a4, rfl⟩ : ∃ a4, A4 = some a4 := Option.ne_none_iff_exists'.1 (hs4.some_ trivial)
      have i4 := Lib.hid (isBuffer_below i3.out hb4)
      have hbr4 : Below w.heap.size w w4 := hbr3.trans (hb4.mono hbr3.size)
      have hn4 : Hid (n4 ≤ 8589934592) := by
        have g1 := hs4.len.out
        have g2 := ended_length fs[k].2
        have g3 := hdl.out
        show n4 ≤ _
        omega
      clear l0 hn3 hb4 i3 hbs
      go_wp2_with fail
      refine (Tryd.Buffer_Write_any w.heap.size w.heap.size _ (Lib.byteCells (ended fs[k].2)) a4 n4 cap4 w4 i4.out hbr4.size ?_ (by rw [Lib.byteCells_length]; exact hs4.len.out.symm) (isBuffer_ne i4.out (by decide) hs4.held) (cells_rb hs4.rb) (Lib.byteCells_one _) ?_).mono ?_
      · rw [bytes_app]
        exact Lib.byteCells_one _
      · rw [List.length_append, Lib.byteCells_length, Lib.byteCells_length]
        have := hlen.out
        have := hn4.out
        have q1 : (⟨#[45, 45, 32]⟩ : ByteArray).size = 3 := rfl
        have q2 : (⟨#[32, 45, 45, 10]⟩ : ByteArray).size = 4 := rfl
        rw [size_list]
        simp only [ByteArray.size_append, q1, q2]
        omega
      rintro e w5 ⟨rfl, i5, hb5, -⟩
      have hbr5 := hbr4.trans hb5
      have i5 := Lib.hid i5
      clear hb5 i4
      go_wp2
      go_roundw
      case rel =>
        refine ⟨k + 1, by omega, by go_num, ?_, hbr5⟩
        have := i5.out
        rw [bytes_app, bytes_app] at this
        rw [format_take hkl]
        have e1 : (⟨#[45, 45, 32]⟩ ++ s ++ ⟨#[32, 45, 45, 10]⟩ : ByteArray).data.toList = mkLine fs[k].1 := by
          rw [← HS.out]
          simp [mkLine, pre, suf]
        rw [e1, List.append_assoc] at this
        exact this
      case measure => simp [intOf]; omega
    · go_wp2_with fail
      refine (Tryd.Buffer_Bytes w.heap.size w.heap.size _ _ hbuf).mono ?_
      rintro e w3 ⟨v, rfl, hown, nq, rfl⟩
      obtain ⟨A', n', cap', rfl, hbs⟩ := bs_of_own hown
      have HBS := Lib.hid hbs
      clear hbs hown hbuf
      go_wp2
      go_ret
      refine ⟨A', n', cap', rfl, ?_, below_drewN hb nq⟩
      have e : fs.take k = fs := List.take_of_length_le (by rw [← h4.out]; omega)
      have := HBS.out
      rwa [e] at this
end Go.Proofs.YtoojofakgjmagaaDoor.Tx
