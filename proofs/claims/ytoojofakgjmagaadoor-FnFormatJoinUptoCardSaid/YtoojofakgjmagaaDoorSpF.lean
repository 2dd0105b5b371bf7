/-
  The walks of the reference's Format and of the size tests of the statements. Conditions: the texts together at most 2^40 bytes.
-/
import Derived.Test.YtoojofakgjmagaaDoorSpA
import Derived.Test.YtoojofakgjmagaaDoorFiles
import Derived.Test.YtoojofakgjmagaaDoorLaws
namespace Go.Proofs.YtoojofakgjmagaaDoor.Tx
open Go Go.RowKit

theorem ended_q (s : ByteArray) (W : World) (hs : s.size ≤ 4294967296) : Calls Tryd.prog 20 #[.string s] W fun e w' => e = .returned (.string (endedS s)) ∧ w' = W :=
  (ended_any s W hs).mono fun _ _ ⟨h1, h2⟩ => ⟨h1, h2.symm⟩
theorem endedS_size (s : ByteArray) : (endedS s).size ≤ s.size + 1 := by
  have := ended_length s.data.toList
  rw [← endedS_list, size_list, size_list] at this
  exact this
theorem file_text {s t : ByteArray} {a b : Bs} (hs : s.data.toList = a) (ht : t.data.toList = b) (o : ByteArray) :
    (o ++ (⟨#[45, 45, 32]⟩ ++ s ++ ⟨#[32, 45, 45, 10]⟩ ++ endedS t)).data.toList = o.data.toList ++ (mkLine a ++ ended b) := by
  subst hs
  subst ht
  simp [mkLine, pre, suf]

set_option maxHeartbeats 800000 in
set_option maxRecDepth 100000 in
theorem specFormat_any (c : ByteArray) (A : Option Addr) (n cap : Nat) (fs : List (Bs × Bs)) (w : World) (hn : Hid (n = fs.length)) (hr : Row w A (fileCells fs)) (hcs : c.size ≤ 4294967296) (hfs : Hid (∀ f ∈ fs, f.1.length ≤ 4294967296 ∧ f.2.length ≤ 4294967296))
    (htot : Hid ((format (c.data.toList, fs)).length ≤ 1099511627776)) (hn64 : n ≤ 4294967296) :
    Calls Tryd.prog 15 #[.agg #[.string c, .slice A n cap]] w fun e w' => e = .returned (.string (S (format (c.data.toList, fs)))) ∧ Below w.heap.size w w' := by
  have hes := endedS_size c
  go_enter Tryd.func15, Tryd.ntmps15
  go_wp2_with (go_at_call 20; refine (ended_any _ _ hcs).mono ?_; rintro e w' ⟨rfl, rfl⟩)
  go_loopw [3, 12] (fun v i wr => ∃ (k : Nat) (o : ByteArray), k ≤ n ∧ i = .int .i64 k ∧ v = .string o ∧ o.data.toList = format (c.data.toList, fs.take k) ∧ Below w.heap.size w wr) (fun _ i _ => n - (intOf i).toNat)
  case atStart => exact ⟨0, endedS c, by omega, rfl, rfl, by simp [format], (Below.refl _ _).alloc (Nat.le_refl _) _⟩
  case round =>
    obtain ⟨k, o, hk, rfl, rfl, ho, hb⟩ := hrel
    have hosz : o.size ≤ 1099511627776 := by
      rw [← size_list, ho]
      exact Nat.le_trans (format_take_le _ _ _) htot.out
    have HO := Lib.hid ho
    clear ho
    have hsz := hb.size
    by_cases hlt : k < n
    · have hkl : k < fs.length := by rw [← hn.out]; exact hlt
      obtain ⟨b, off, s, t, rfl, hbw, hc1, hc2, hs, ht⟩ := row_file (hr.below hb) hkl
      have hls : s.size ≤ 4294967296 := by rw [← size_list, hs]; exact (hfs.out _ (List.getElem_mem hkl)).1
      have hlt' : t.size ≤ 4294967296 := by rw [← size_list, ht]; exact (hfs.out _ (List.getElem_mem hkl)).2
      have hte := endedS_size t
      have HS := Lib.hid hs
      have HT := Lib.hid ht
      clear hs ht
      go_wp2_with fail
      go_quiet ((go_at_call 20; exact Calls.quiet_of_same (ended_q t _ hlt')))
      go_wp2
      go_roundw
      case rel =>
        refine ⟨k + 1, _, by omega, by go_num, rfl, ?_, below_drewN (hb.alloc hsz _) _⟩
        rw [file_text HS.out HT.out, HO.out, format_take hkl]
      case measure => simp [intOf]; omega
    · go_wp2
      go_ret
      refine ⟨ret_eq (congrArg Value.string (ba_eq ?_)), hb⟩
      rw [HO.out, S_data, List.take_of_length_le (by rw [← hn.out]; omega)]
end Go.Proofs.YtoojofakgjmagaaDoor.Tx
