/-
  The walk of the reference's Lines: the lines of a text, each with its newline, in a slice of the call's own.
-/
import Derived.Test.YtmogecodjiofeaaDoorSpA
namespace Go.Proofs.YtmogecodjiofeaaDoor.Tx
open Go Go.RowKit

theorem infoStr : (Tryd.prog.info? 9).map (fun i => (i.zero, i.size, i.bytes)) = some (some (.string ⟨#[]⟩), 1, 16) := by kernel_rfl
/-- the cells of a list of strings -/
def strCells (ls : List Bs) : List Value := ls.map fun x => .string (S x)
theorem strCells_snoc (ls : List Bs) (x : Bs) : strCells (ls ++ [x]) = strCells ls ++ [.string (S x)] := by simp [strCells]
theorem byte_list (s : ByteArray) (k : Nat) (h : k < s.size) : s.data.toList.drop k = s[k] :: s.data.toList.drop (k + 1) := List.drop_eq_getElem_cons (by rw [size_list]; exact h)
theorem ext_one (s : ByteArray) (k : Nat) (h : k < s.size) : (s.extract k (k + 1)).data.toList = [s[k]] := by
  rw [extract_list, byte_list s k h, show k + 1 - k = 1 by omega]
  rfl
theorem add_one (line : Bs) (s : ByteArray) (k : Nat) (h : k < s.size) : S line ++ s.extract k (k + 1) = S (line ++ [s[k]]) := by
  apply ba_eq
  rw [S_data, ByteArray.data_append, Array.toList_append, ext_one s k h, S_data]

set_option maxHeartbeats 800000 in
theorem lines_own (s : ByteArray) (w : World) (hs : s.size ≤ 4294967296) : Calls Tryd.prog 18 #[.string s] w fun e w' => ∃ v, e = .returned v ∧ w'.ownsRow w.heap.size 9 1 v (lines s.data.toList).length (strCells (lines s.data.toList)) ∧ Below w.heap.size w w' := by
  obtain ⟨i0, hi, hz0, hz1, hz2⟩ := info_parts infoStr
  go_enter Tryd.func18, Tryd.ntmps18
  go_wp2
  go_loopw [3, 4, 5] (fun v l i wr => ∃ (k : Nat) (acc : List Bs) (line : Bs), k ≤ s.size ∧ i = .int .i64 k ∧ l = .string (S line) ∧ wr.ownsRow w.heap.size 9 1 v acc.length (strCells acc) ∧ Below w.heap.size w wr ∧
      lines s.data.toList = acc ++ linesAcc line (s.data.toList.drop k) ∧ line.length ≤ k ∧ acc.length ≤ k) (fun _ _ i _ => s.size - (intOf i).toNat)
  case atStart => exact ⟨0, [], [], by omega, rfl, rfl, World.ownsRow_made w #[] 0 (Nat.le_refl _) (by decide) rfl, (Below.refl _ _).alloc (Nat.le_refl _) _, by simp [lines], by simp, by simp⟩
  case round =>
    obtain ⟨k, acc, line, hk, rfl, rfl, hown, hbw, hl, hll, hal⟩ := hrel
    have HL := Lib.hid hl
    clear hl
    have hsz := hbw.size
    by_cases hlt : k < s.size
    · have hadd : ∀ W, (Op.stringOp .add (S line) (s.extract k (k + 1))).run Tryd.prog W = .ok (.string (S (line ++ [s[k]]))) W := fun W => by
        rw [run_string_add_sum W _ _ (by rw [S_size]; simp; omega), add_one line s k hlt]
      by_cases hc : s[k] = 10
      · have hc1 : ((s[k].toNat : Int) == 10) = true := by rw [hc]; rfl
        have hc' := Lib.hid hc
        clear hc
        go_wp2_with (at_builtin; refine wpList_append_own _ rfl _ _ 23 rfl w.heap.size 9 i0 (.string ⟨#[]⟩) 1 16 Tryd.underlying23 hi hz0 hz1 hz2 rfl (by decide) _ _ _ rfl (hown.alloc _) ⟨wr.heap.size, 0, none⟩ 1 1 [.string (S (line ++ [s[k]]))] rfl rfl ?c1 ?c2 ?c3 ?c4 ?c5 ?_)
        case c1 =>
          intro j u hj
          match j, hj with
          | 0, hj => simp at hj; subst hj; simp [Addr.add]
        case c2 => intro u hu; simp at hu; subst hu; rfl
        case c3 => unfold maxLen; omega
        case c4 => omega
        case c5 => simp; omega
        intro v' w1 hown' hgrow _
        have hb1 := below_append hbw hsz hown hgrow
        clear hgrow hown
        go_wp2
        go_roundw
        case rel =>
          refine ⟨k + 1, acc ++ [line ++ [s[k]]], [], by omega, by go_num, rfl, ?_, hb1, ?_, by simp, by simp; omega⟩
          · rw [strCells_snoc]
            simpa using hown'
          · rw [HL.out, byte_list s k hlt, linesAcc, if_pos hc'.out, hc'.out]
            simp
        case measure => simp [intOf]; omega
      · have hc1 : ((s[k].toNat : Int) == 10) = false := by
          have : ¬ s[k].toNat = 10 := fun h => hc (by rw [← UInt8.toNat_inj]; exact h)
          simp; omega
        go_wp2
        go_roundw
        case rel =>
          refine ⟨k + 1, acc, line ++ [s[k]], by omega, by go_num, rfl, hown, hbw, ?_, by simp; omega, by omega⟩
          rw [HL.out, byte_list s k hlt, linesAcc, if_neg hc]
        case measure => simp [intOf]; omega
    · have hL2 : lines s.data.toList = acc ++ linesAcc line [] := by
        rw [HL.out, List.drop_eq_nil_of_le (by rw [size_list]; omega)]
      have HL2 := Lib.hid hL2
      clear hL2 HL
      by_cases h0 : line = []
      · subst h0
        have h1 : (S []).toList.isEmpty = true := by rw [Lib.toList_data, S_data]; rfl
        go_wp2
        go_ret
        refine ⟨_, rfl, ?_, hbw⟩
        rw [HL2.out]
        have : acc ++ linesAcc [] [] = acc := by simp [linesAcc]
        rw [this]
        exact hown
      · have h1 : (S line).toList.isEmpty = false := by rw [Lib.toList_data, S_data]; simpa using h0
        have hadd : ∀ W, (Op.stringOp .add (S line) ⟨#[10]⟩).run Tryd.prog W = .ok (.string (S (line ++ [10]))) W := fun W => by
          rw [run_string_add_sum W _ _ (by rw [S_size]; show line.length + 1 ≤ _; omega)]
          congr 2
        go_wp2_with (at_builtin; refine wpList_append_own _ rfl _ _ 23 rfl w.heap.size 9 i0 (.string ⟨#[]⟩) 1 16 Tryd.underlying23 hi hz0 hz1 hz2 rfl (by decide) _ _ _ rfl (hown.alloc _) ⟨wr.heap.size, 0, none⟩ 1 1 [.string (S (line ++ [10]))] rfl rfl ?d1 ?d2 ?d3 ?d4 ?d5 ?_)
        case d1 =>
          intro j u hj
          match j, hj with
          | 0, hj => simp at hj; subst hj; simp [Addr.add]
        case d2 => intro u hu; simp at hu; subst hu; rfl
        case d3 => unfold maxLen; omega
        case d4 => omega
        case d5 => simp; omega
        intro v' w1 hown' hgrow _
        have hb1 := below_append hbw hsz hown hgrow
        clear hgrow hown
        go_wp2
        go_ret
        refine ⟨_, rfl, ?_, hb1⟩
        rw [HL2.out]
        have e : acc ++ linesAcc line [] = acc ++ [line ++ [10]] := by simp [linesAcc, h0]
        rw [e]
        rw [strCells_snoc]
        simpa using hown'
theorem lines_any (s : ByteArray) (w : World) (hs : s.size ≤ 4294967296) : Calls Tryd.prog 18 #[.string s] w fun e w' => ∃ v, e = .returned v ∧ Strs w' v (lines s.data.toList) ∧ Below w.heap.size w w' :=
  (lines_own s w hs).mono fun _ _ ⟨v, h1, h2, h3⟩ => ⟨v, h1, Strs.of_own h2, h3⟩
end Go.Proofs.YtmogecodjiofeaaDoor.Tx
