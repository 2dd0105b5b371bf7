/-
  The walks of the reference's small functions: blank, Strip, begins, Marker: each returns what the plain layer says, at every string within the form's reach.
-/
import Derived.Test.YtmogecodjiofeaaDoorEnd
namespace Go.Proofs.YtmogecodjiofeaaDoor.Tx
open Go Go.RowKit

/-- results as words of their own, so that the walk leaves them standing -/
def stripS (s : ByteArray) : ByteArray := S (strip s.data.toList)
def mkS (s : ByteArray) : ByteArray := S (mk s.data.toList)
@[simp] theorem stripS_list (s : ByteArray) : (stripS s).data.toList = strip s.data.toList := S_data _
@[simp] theorem mkS_list (s : ByteArray) : (mkS s).data.toList = mk s.data.toList := S_data _
theorem isSp_nat (c : UInt8) : Lib.isSp c = (c.toNat == 9 || c.toNat == 10 || c.toNat == 11 || c.toNat == 12 || c.toNat == 13 || c.toNat == 32) := by
  rw [Bool.eq_iff_iff]
  simp [Lib.isSp, ← UInt8.toNat_inj]
theorem blank_any (c : UInt8) (w : World) : Calls Tryd.prog 24 #[.int .u8 (c.toNat : Int)] w fun e w' => e = .returned (.bool (Lib.isSp c)) ∧ w = w' := by
  go_enter Tryd.func24, Tryd.ntmps24
  go_wp2
  all_goals go_ret
  all_goals
    refine ⟨ret_eq (congrArg Value.bool ?_), rfl⟩
    rw [isSp_nat, Bool.eq_iff_iff]
    simp
    try omega

theorem extract_list (s : ByteArray) (a b : Nat) : (s.extract a b).data.toList = (s.data.toList.drop a).take (b - a) := Lib.extract_data s a b

/-- a string's length, for a loop's measure -/
def strLen : Value → Nat
  | .string s => s.size
  | _ => 0
theorem drop_tail (s : ByteArray) : (s.extract 1 s.size).data.toList = s.data.toList.drop 1 := by
  rw [extract_list, List.take_of_length_le (by rw [List.length_drop, size_list]; omega)]
theorem drop_end (s : ByteArray) : (s.extract 0 (s.size - 1)).data.toList = s.data.toList.dropLast := by
  rw [extract_list, List.drop_zero, Nat.sub_zero, List.dropLast_eq_take, size_list]
theorem dropWhile_first {s : ByteArray} (h : 0 < s.size) (hb : Lib.isSp s[0] = true) : (s.extract 1 s.size).data.toList.dropWhile Lib.isSp = s.data.toList.dropWhile Lib.isSp := by
  rw [drop_tail]
  conv => rhs; rw [first_byte h, List.dropWhile_cons, if_pos hb]
theorem dropWhile_here {s : ByteArray} (h : ∀ hp : 0 < s.size, Lib.isSp (s[0]'hp) = false) : s.data.toList.dropWhile Lib.isSp = s.data.toList := by
  by_cases hp : 0 < s.size
  · refine dropWhile_stop fun b hb => ?_
    rw [first_byte hp] at hb
    simp at hb
    rw [← hb]
    exact h hp
  · rw [empty_list hp]; rfl
/-- stripping from the end -/
def stripEnd (l : Bs) : Bs := (l.reverse.dropWhile Lib.isSp).reverse
theorem stripEnd_last {s : ByteArray} (h : s.size - 1 < s.size) (hb : Lib.isSp s[s.size - 1] = true) : stripEnd (s.extract 0 (s.size - 1)).data.toList = stripEnd s.data.toList := by
  have hl := last_byte h
  obtain ⟨f, g, hg⟩ := snoc_of (l := s.data.toList) (by intro h0; rw [h0] at hl; cases hl)
  rw [hg] at hl
  simp at hl
  rw [drop_end, hg, List.dropLast_concat]
  unfold stripEnd
  rw [List.reverse_append, List.reverse_singleton, List.singleton_append, List.dropWhile_cons, if_pos (by rw [hl]; exact hb)]
theorem stripEnd_here {s : ByteArray} (h : ∀ _hp : 0 < s.size, Lib.isSp (s[s.size - 1]'(by omega)) = false) : stripEnd s.data.toList = s.data.toList := by
  by_cases hp : 0 < s.size
  · unfold stripEnd
    rw [dropWhile_stop, List.reverse_reverse]
    intro b hb
    rw [List.head?_reverse, last_byte (by omega)] at hb
    have := Option.some.inj hb
    rw [← this]
    exact h hp
  · rw [empty_list hp]; rfl
theorem extract_size (s : ByteArray) : (s.extract 1 s.size).size = s.size - 1 := by simp
theorem extract_size' (s : ByteArray) : (s.extract 0 (s.size - 1)).size = s.size - 1 := by simp

set_option maxHeartbeats 800000 in
theorem strip_any (s0 : ByteArray) (w : World) (hs : s0.size ≤ 4294967296) : Calls Tryd.prog 16 #[.string s0] w fun e w' => e = .returned (.string (stripS s0)) ∧ w = w' := by
  go_enter Tryd.func16, Tryd.ntmps16
  go_wp2
  go_loop [0] (fun v => ∃ s : ByteArray, v = .string s ∧ s.size ≤ 4294967296 ∧ s.data.toList.dropWhile Lib.isSp = s0.data.toList.dropWhile Lib.isSp) (fun v => strLen v)
  case atStart => exact ⟨s0, rfl, hs, rfl⟩
  case round =>
    obtain ⟨s, rfl, hz, hd⟩ := hrel
    have HD := Lib.hid hd
    clear hd
    by_cases hgo : ∃ hp : 0 < s.size, Lib.isSp s[0] = true
    · obtain ⟨hp, hb⟩ := hgo
      go_wp2_with (go_at_call 24; refine (blank_any _ _).mono ?_; rintro e w' ⟨rfl, rfl⟩)
      go_round
      case rel => exact ⟨_, rfl, by rw [extract_size]; omega, by rw [dropWhile_first hp hb]; exact HD.out⟩
      case measure => simp only [strLen]; rw [extract_size]; omega
    · have HE := Lib.hid (p := s.data.toList = s0.data.toList.dropWhile Lib.isSp) (by rw [← HD.out, dropWhile_here]; exact fun hp => by cases hb : Lib.isSp s[0] with | false => rfl | true => exact absurd ⟨hp, hb⟩ hgo)
      clear HD
      by_cases hp : 0 < s.size
      all_goals
        first
        | have hb : Lib.isSp s[0] = false := by cases hb : Lib.isSp s[0] with | false => rfl | true => exact absurd ⟨hp, hb⟩ hgo
        | skip
        clear hgo
        go_wp2_with (go_at_call 24; refine (blank_any _ _).mono ?_; rintro e w' ⟨rfl, rfl⟩)
        go_loop [0] (fun v => ∃ t : ByteArray, v = .string t ∧ t.size ≤ 4294967296 ∧ stripEnd t.data.toList = stripEnd s.data.toList) (fun v => strLen v)
        case atStart => exact ⟨s, rfl, hz, rfl⟩
        case round =>
          obtain ⟨t, rfl, hy, hd⟩ := hrel
          have HD := Lib.hid hd
          clear hd
          by_cases hgo : ∃ hp : 0 < t.size, Lib.isSp (t[t.size - 1]'(by omega)) = true
          · obtain ⟨hq, hc⟩ := hgo
            go_wp2_with (go_at_call 24; refine (blank_any _ _).mono ?_; rintro e w' ⟨rfl, rfl⟩)
            go_round
            case rel => exact ⟨_, rfl, by rw [extract_size']; omega, by rw [stripEnd_last (by omega) hc]; exact HD.out⟩
            case measure => simp only [strLen]; rw [extract_size']; omega
          · have HF := Lib.hid (p := t.data.toList = strip s0.data.toList) (by rw [strip_eq, ← HE.out]; show _ = stripEnd _; rw [← HD.out, stripEnd_here]; exact fun hq => by cases hc : Lib.isSp (t[t.size - 1]'(by omega)) with | false => rfl | true => exact absurd ⟨hq, hc⟩ hgo)
            by_cases hq : 0 < t.size
            all_goals
              first
              | have hc : Lib.isSp (t[t.size - 1]'(by omega)) = false := by cases hc : Lib.isSp (t[t.size - 1]'(by omega)) with | false => rfl | true => exact absurd ⟨hq, hc⟩ hgo
              | skip
              clear hgo
              go_wp2_with (go_at_call 24; refine (blank_any _ _).mono ?_; rintro e w' ⟨rfl, rfl⟩)
              go_ret
              exact ⟨ret_eq (congrArg Value.string (ba_eq (by rw [stripS_list]; exact HF.out))), rfl⟩

theorem isPrefixOf_take (p l : Bs) : p.isPrefixOf l = (decide (p.length ≤ l.length) && (l.take p.length == p)) := by
  rw [Bool.eq_iff_iff]
  simp only [List.isPrefixOf_iff_prefix, Bool.and_eq_true, decide_eq_true_eq, beq_iff_eq]
  constructor
  · rintro ⟨t, rfl⟩
    simp
  · rintro ⟨_, h⟩
    exact ⟨l.drop p.length, by conv => lhs; arg 1; rw [← h]
                               exact List.take_append_drop _ _⟩
/-- does s begin with p? (a word of its own, so that the walk leaves it standing) -/
def beginsB (s p : ByteArray) : Bool := p.data.toList.isPrefixOf s.data.toList

theorem begins_any (s p : ByteArray) (w : World) : Calls Tryd.prog 27 #[.string s, .string p] w fun e w' => e = .returned (.bool (beginsB s p)) ∧ w = w' := by
  by_cases h : p.size ≤ s.size
  · go_enter Tryd.func27, Tryd.ntmps27
    go_wp2
    go_ret
    refine ⟨ret_eq (congrArg Value.bool ?_), rfl⟩
    rw [beginsB, isPrefixOf_take, size_list, size_list, Lib.toList_data, Lib.toList_data, extract_list, List.drop_zero, Nat.sub_zero]
    simp [h]
  · go_enter Tryd.func27, Tryd.ntmps27
    go_wp2
    go_ret
    refine ⟨ret_eq (congrArg Value.bool ?_), rfl⟩
    rw [beginsB, isPrefixOf_take, size_list, size_list]
    simp [h]

theorem isSuffixOf_drop (p l : Bs) (h : p.length ≤ l.length) : p.isSuffixOf l = (l.drop (l.length - p.length) == p) := by
  rw [Bool.eq_iff_iff]
  simp only [List.isSuffixOf_iff_suffix, beq_iff_eq]
  constructor
  · rintro ⟨t, rfl⟩
    simp
  · intro h'
    exact ⟨l.take (l.length - p.length), by conv => lhs; arg 2; rw [← h']
                                            exact List.take_append_drop _ _⟩
theorem mk_no {s : ByteArray} (h : isMk s.data.toList.dropLast = false) : mkS s = ⟨#[]⟩ := by
  have : mk s.data.toList = [] := by
    show nameWith strip s.data.toList.dropLast = []
    unfold nameWith
    rw [h]
    rfl
  rw [mkS, this]
  rfl
theorem isMk_short {s : ByteArray} (h : s.size < 7) : isMk s.data.toList.dropLast = false := by
  have : s.data.toList.dropLast.length < 6 := by rw [List.length_dropLast, size_list]; omega
  unfold isMk
  have h2 : decide (6 ≤ s.data.toList.dropLast.length) = false := by simp only [decide_eq_false_iff_not]; omega
  rw [h2, Bool.and_false]
theorem isMk_begins {s : ByteArray} (h : beginsB (s.extract 0 (s.size - 1)) ⟨#[45, 45, 32]⟩ = false) : isMk s.data.toList.dropLast = false := by
  unfold beginsB at h
  rw [drop_end] at h
  unfold isMk
  have h2 : pre.isPrefixOf s.data.toList.dropLast = false := h
  rw [h2, Bool.false_and, Bool.false_and]
theorem isMk_end {s : ByteArray} (h6 : ¬ s.size < 7) (h : beginsB (s.extract 0 (s.size - 1)) ⟨#[45, 45, 32]⟩ = true) :
    isMk s.data.toList.dropLast = (((s.extract 0 (s.size - 1)).extract (s.size - 1 - 3) (s.size - 1)).toList == [32, 45, 45]) := by
  unfold beginsB at h
  rw [drop_end] at h
  have hl : s.data.toList.dropLast.length = s.size - 1 := by rw [List.length_dropLast, size_list]
  have h2 : pre.isPrefixOf s.data.toList.dropLast = true := h
  have h3 : decide (6 ≤ s.data.toList.dropLast.length) = true := by simp only [decide_eq_true_eq]; omega
  unfold isMk
  rw [h2, h3, Bool.true_and, Bool.and_true, isSuffixOf_drop _ _ (by rw [hl]; show 3 ≤ _; omega), Lib.toList_data, extract_list, drop_end, hl]
  rw [List.take_of_length_le (by rw [List.length_drop, hl]; omega)]
  rfl
theorem inner_ext (s : ByteArray) : ((s.extract 0 (s.size - 1)).extract 3 (s.size - 1 - 3)).data.toList = inner s.data.toList.dropLast := by
  have hl : s.data.toList.dropLast.length = s.size - 1 := by rw [List.length_dropLast, size_list]
  rw [extract_list, drop_end, inner, hl]
  congr 1

theorem marker_any (s : ByteArray) (w : World) (h1 : 1 ≤ s.size) (hs : s.size ≤ 4294967296) : Calls Tryd.prog 21 #[.string s] w fun e w' => e = .returned (.string (mkS s)) ∧ w = w' := by
  by_cases h6 : s.size < 7
  · have HE := Lib.hid (mk_no (isMk_short h6))
    have h7 : ((s.size - 1 : Nat) : Int) < 6 := by omega
    go_enter Tryd.func21, Tryd.ntmps21
    go_wp2
    go_ret
    exact ⟨ret_eq (congrArg Value.string HE.out.symm), rfl⟩
  · have h7 : ¬ ((s.size - 1 : Nat) : Int) < 6 := by omega
    cases hb : beginsB (s.extract 0 (s.size - 1)) ⟨#[45, 45, 32]⟩
    · have HE := Lib.hid (mk_no (isMk_begins hb))
      go_enter Tryd.func21, Tryd.ntmps21
      go_wp2_with (go_at_call 27; refine (begins_any _ _ _).mono ?_; rintro e w' ⟨rfl, rfl⟩)
      go_ret
      exact ⟨ret_eq (congrArg Value.string HE.out.symm), rfl⟩
    · have HM := Lib.hid (isMk_end h6 hb)
      cases hc : (((s.extract 0 (s.size - 1)).extract (s.size - 1 - 3) (s.size - 1)).toList == [32, 45, 45])
      · have HE := Lib.hid (mk_no (HM.out.trans hc))
        go_enter Tryd.func21, Tryd.ntmps21
        go_wp2_with (go_at_call 27; refine (begins_any _ _ _).mono ?_; rintro e w' ⟨rfl, rfl⟩)
        go_ret
        exact ⟨ret_eq (congrArg Value.string HE.out.symm), rfl⟩
      · have HE := Lib.hid (HM.out.trans hc)
        go_enter Tryd.func21, Tryd.ntmps21
        go_wp2_with (first | (go_at_call 27; refine (begins_any _ _ _).mono ?_; rintro e w' ⟨rfl, rfl⟩) | (go_at_call 16; refine (strip_any _ _ (by simp; omega)).mono ?_; rintro e w' ⟨rfl, rfl⟩))
        go_ret
        refine ⟨ret_eq (congrArg Value.string ?_), rfl⟩
        rw [stripS, inner_ext s]
        show _ = S (nameWith strip s.data.toList.dropLast)
        rw [nameWith, HE.out]
        rfl
end Go.Proofs.YtmogecodjiofeaaDoor.Tx
