/-
  The walk of the reference's Ended: it returns what the plain layer says, at every string of at most 2^32 bytes.
-/
import Derived.Test.YtmogecodjiofeaaDoorChecked
import Derived.Test.YtmogecodjiofeaaDoorMem
import Derived.Test.YtmogecodjiofeaaDoorLaws
import Derived.Deep.QuietTactic
import Derived.BigQuiet
import Derived.WalkLawsBesides
namespace Go.Proofs.YtmogecodjiofeaaDoor.Tx
open Go Go.RowKit

/-- a result as a word of its own, so that the walk leaves it standing -/
def endedS (s : ByteArray) : ByteArray := S (ended s.data.toList)
@[simp] theorem endedS_list (s : ByteArray) : (endedS s).data.toList = ended s.data.toList := S_data _
theorem last_byte {s : ByteArray} (h : s.size - 1 < s.size) : s.data.toList.getLast? = some s[s.size - 1] := by
  have hl : s.data.toList.length = s.size := size_list s
  rw [List.getLast?_eq_getElem?, hl, List.getElem?_eq_getElem (by omega)]
  rfl
theorem first_byte {s : ByteArray} (h : 0 < s.size) : s.data.toList = s[0] :: s.data.toList.drop 1 := by
  have hl : s.data.toList.length = s.size := size_list s
  have := List.drop_eq_getElem_cons (l := s.data.toList) (i := 0) (by omega)
  rw [List.drop_zero] at this
  exact this
theorem empty_list {s : ByteArray} (h : ¬ 0 < s.size) : s.data.toList = [] := List.eq_nil_of_length_eq_zero (by rw [size_list]; omega)

theorem ended_any (s : ByteArray) (w : World) (hs : s.size ≤ 4294967296) : Calls Tryd.prog 13 #[.string s] w fun e w' => e = .returned (.string (endedS s)) ∧ w = w' := by
  by_cases h0 : s.data.toList = []
  · have h1 : s.toList.isEmpty = true := by rw [Lib.toList_data, h0]; rfl
    have e : s = S [] := ba_eq (by rw [h0, S_data])
    have he := Lib.hid e
    clear e
    have h0 := Lib.hid h0
    go_enter Tryd.func13, Tryd.ntmps13
    go_wp2
    go_ret
    exact ⟨ret_eq (congrArg Value.string (by rw [endedS, h0.out]; exact he.out)), rfl⟩
  · have h1 : s.toList.isEmpty = false := by rw [Lib.toList_data]; simpa using h0
    have hp : 1 ≤ s.size := by
      have := List.length_pos_iff.2 h0
      rw [size_list] at this
      omega
    go_enter Tryd.func13, Tryd.ntmps13
    go_wp2
    · have hl : (((s[s.size - 1]'(by omega)).toNat : Int) == 10) = true := by assumption
      have hl2 : s[s.size - 1]'(by omega) = 10 := by rw [← UInt8.toNat_inj]; simp at hl; exact_mod_cast hl
      go_ret
      refine ⟨ret_eq (congrArg Value.string (ba_eq ?_)), rfl⟩
      rw [endedS_list, ended_of_last]
      rw [last_byte (by omega), hl2]
    · have hl : (((s[s.size - 1]'(by omega)).toNat : Int) == 10) = false := by assumption
      have hl2 : s[s.size - 1]'(by omega) ≠ 10 := by intro h; rw [h] at hl; simp at hl
      go_ret
      refine ⟨ret_eq (congrArg Value.string (ba_eq ?_)), rfl⟩
      rw [endedS_list]
      unfold ended
      rw [if_neg h0, last_byte (by omega), if_neg (by simpa using hl2)]
      simp
end Go.Proofs.YtmogecodjiofeaaDoor.Tx
