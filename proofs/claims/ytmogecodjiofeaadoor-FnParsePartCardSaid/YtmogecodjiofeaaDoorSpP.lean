/-
  The walks of the reference's tests: Plain, Unmarked, Named, Straight: each answers as the plain layer's Bool of that name, at every string within the form's reach.
-/
import Derived.Test.YtmogecodjiofeaaDoorSpL
namespace Go.Proofs.YtmogecodjiofeaaDoor.Tx
open Go Go.RowKit

def plainB (s : ByteArray) : Bool := plainL s.data.toList
def unmarkedB (s : ByteArray) : Bool := unmarkedL s.data.toList
def namedB (s : ByteArray) : Bool := namedL s.data.toList
def straightB (s : ByteArray) : Bool := straightL s.data.toList

/-- Lines, its list under a name -/
theorem lines_as (s : ByteArray) (w : World) (hs : s.size ≤ 4294967296) (ls : List Bs) (h : Hid (ls = lines s.data.toList)) :
    Calls Tryd.prog 18 #[.string s] w fun e w' => ∃ A cap, e = .returned (.slice A ls.length cap) ∧ ls.length ≤ cap ∧ Row w' A (strCells ls) ∧ Below w.heap.size w w' := by
  refine (lines_any s w hs).mono ?_
  rintro e w' ⟨v, rfl, ⟨A, cap, rfl, hc, hr⟩, hb⟩
  rw [← h.out] at hc hr ⊢
  exact ⟨A, cap, rfl, hc, hr, hb⟩
/-- line k, as a string of its own name -/
theorem row_string {w : World} {A : Option Addr} {ls : List Bs} (h : Row w A (strCells ls)) {k : Nat} (hk : k < ls.length) :
    ∃ (b o : Nat) (t : ByteArray), A = some ⟨b, o, none⟩ ∧ b < w.heap.size ∧ w.cell? ⟨b, o + k, none⟩ = some (.string t) ∧ t.data.toList = ls[k] := by
  have hi : (strCells ls)[k]? = some (.string (S ls[k])) := by
    unfold strCells
    rw [List.getElem?_map, List.getElem?_eq_getElem hk]
    rfl
  obtain ⟨b, o, e, hb, hc⟩ := h.at_ hi
  exact ⟨b, o, S ls[k], e, hb, hc, S_data _⟩
theorem all_take_succ {α : Type} {p : α → Bool} {ls : List α} {k : Nat} (hk : k < ls.length) (h : (ls.take k).all p = true) (hx : p ls[k] = true) : (ls.take (k + 1)).all p = true := by
  rw [List.take_succ_eq_append_getElem hk, List.all_append, h]
  simp [hx]
theorem all_false {α : Type} {p : α → Bool} {ls : List α} {k : Nat} (hk : k < ls.length) (hx : p ls[k] = false) : ls.all p = false := by
  cases h : ls.all p with
  | false => rfl
  | true =>
    have := List.all_eq_true.1 h ls[k] (List.getElem_mem hk)
    rw [hx] at this
    cases this
theorem all_of_take {α : Type} {p : α → Bool} {ls : List α} {k : Nat} (hk : ¬ k < ls.length) (h : (ls.take k).all p = true) : ls.all p = true := by
  rwa [List.take_of_length_le (by omega)] at h
theorem mem_len : ∀ {ls : List Bs} {x : Bs}, x ∈ ls → x.length ≤ ls.flatten.length
  | y :: r, x, h => by
    rw [List.flatten_cons, List.length_append]
    rcases List.mem_cons.1 h with rfl | h
    · omega
    · have := mem_len h
      omega
theorem line_len {s : ByteArray} {ls : List Bs} (h : ls = lines s.data.toList) {k : Nat} (hk : k < ls.length) : ls[k].length ≤ s.size + 1 ∧ 1 ≤ ls[k].length := by
  subst h
  have hm := List.getElem_mem hk
  constructor
  · have h1 : (lines s.data.toList)[k].length ≤ (lines s.data.toList).flatten.length := mem_len hm
    rw [lines_flatten] at h1
    have h2 := ended_length s.data.toList
    rw [size_list] at h2
    omega
  · exact List.length_pos_iff.2 (lines_isLine _ _ hm).ne
theorem lines_le {s : ByteArray} {ls : List Bs} (h : ls = lines s.data.toList) : ls.length ≤ s.size := by
  subst h
  have := lines_count s.data.toList
  rwa [size_list] at this

def charOk (c : UInt8) : Bool := decide (9 ≤ c.toNat) && decide (c.toNat ≤ 126)
def nameOk (c : UInt8) : Bool := decide (32 ≤ c.toNat) && decide (c.toNat ≤ 126)
theorem plain_no {s : ByteArray} {ls : List Bs} (h : ls = lines s.data.toList) {k : Nat} (hk : k < ls.length) (hx : plainLine ls[k] = false) : plainB s = false := by
  rw [plainB, plainL, ← h]
  exact all_false hk hx
theorem plainLine_no {t : ByteArray} (hb : beginsB t ⟨#[45, 45, 32]⟩ = true) (h : t.data.toList.all charOk = false ∨ (t.data.toList.getD (t.data.toList.length - 2) 0 == 13) = true) : plainLine t.data.toList = false := by
  unfold plainLine
  have h1 : pre.isPrefixOf t.data.toList = true := hb
  have h2 : (t.data.toList.all fun c => decide (9 ≤ c.toNat) && decide (c.toNat ≤ 126)) = t.data.toList.all charOk := rfl
  rw [h1, h2]
  rcases h with h | h
  · rw [h]; rfl
  · rw [h]; simp
theorem plainLine_yes {t : ByteArray} (h : t.data.toList.all charOk = true) (h2 : (t.data.toList.getD (t.data.toList.length - 2) 0 == 13) = false) : plainLine t.data.toList = true := by
  unfold plainLine
  have h3 : (t.data.toList.all fun c => decide (9 ≤ c.toNat) && decide (c.toNat ≤ 126)) = t.data.toList.all charOk := rfl
  rw [h3, h, h2]
  simp
theorem mkS_no {t : ByteArray} (h : (mkS t).toList.isEmpty = false) : (mk t.data.toList).isEmpty = false := by
  rw [Lib.toList_data, mkS_list] at h
  exact h
theorem mkS_yes {t : ByteArray} (h : (mkS t).toList.isEmpty = true) : (mk t.data.toList).isEmpty = true := by
  rw [Lib.toList_data, mkS_list] at h
  exact h
theorem named_no {s : ByteArray} (h : s.data.toList.all nameOk = false) : namedB s = false := by
  have h3 : (s.data.toList.all fun c => decide (32 ≤ c.toNat) && decide (c.toNat ≤ 126)) = s.data.toList.all nameOk := rfl
  unfold namedB namedL
  rw [h3, h]
  rfl
theorem named_empty {s : ByteArray} (h : s.toList.isEmpty = true) : namedB s = false := by
  rw [Lib.toList_data] at h
  unfold namedB namedL
  rw [h]
  simp
theorem named_yes {s : ByteArray} (h : s.data.toList.all nameOk = true) (h0 : s.toList.isEmpty = false) : namedB s = ((stripS s).toList == s.toList) := by
  rw [Lib.toList_data] at h0
  have h3 : (s.data.toList.all fun c => decide (32 ≤ c.toNat) && decide (c.toNat ≤ 126)) = s.data.toList.all nameOk := rfl
  unfold namedB namedL
  rw [h3, h, h0, Lib.toList_data, Lib.toList_data, stripS_list]
  rfl

set_option maxHeartbeats 1600000 in
theorem plain_any (s : ByteArray) (w : World) (hs : s.size ≤ 4294967295) : Calls Tryd.prog 22 #[.string s] w fun e w' => e = .returned (.bool (plainB s)) ∧ Below w.heap.size w w' := by
  obtain ⟨ls, hls⟩ : ∃ ls, ls = lines s.data.toList := ⟨_, rfl⟩
  have hll := lines_le hls
  have hlen := fun (k : Nat) (hk : k < ls.length) => line_len hls hk
  have HN := Lib.hid hlen
  have HLS := Lib.hid hls
  clear hls hlen
  have hL := Lib.hid (lines_as s w (by omega) ls HLS)
  go_enter Tryd.func22, Tryd.ntmps22
  go_wp2_with fail
  refine hL.out.mono ?_
  rintro e w1 ⟨A, cap, rfl, hcap, hrow, hb1⟩
  clear hL
  go_wp2
  go_loop [11] (fun i => ∃ k : Nat, k ≤ ls.length ∧ i = .int .i64 k ∧ (ls.take k).all plainLine = true) (fun i => ls.length - (intOf i).toNat)
  case atStart => exact ⟨0, by omega, rfl, by simp⟩
  case round =>
    obtain ⟨k, hk, rfl, hall⟩ := hrel
    have HA := Lib.hid hall
    clear hall
    by_cases hlt : k < ls.length
    · obtain ⟨b, o, t, rfl, hb, hc, ht⟩ := row_string hrow hlt
      have hn := HN.out k hlt
      rw [← ht, size_list] at hn
      have HT := Lib.hid ht
      clear ht
      cases hbg : beginsB t ⟨#[45, 45, 32]⟩
      · go_wp2_with (go_at_call 27; refine (begins_any _ _ _).mono ?_; rintro e w' ⟨rfl, rfl⟩)
        go_round
        case rel =>
          refine ⟨k + 1, by omega, by go_num, all_take_succ hlt HA.out ?_⟩
          rw [← HT.out]
          unfold plainLine
          have : pre.isPrefixOf t.data.toList = false := hbg
          rw [this]
          rfl
        case measure => simp [intOf]; omega
      · have h3 : 3 ≤ t.size := by
          have := (List.isPrefixOf_iff_prefix.1 (show pre.isPrefixOf t.data.toList = true from hbg)).length_le
          rw [size_list] at this
          exact this
        go_wp2_with (go_at_call 27; refine (begins_any _ _ _).mono ?_; rintro e w' ⟨rfl, rfl⟩)
        go_loop [6] (fun i => ∃ j : Nat, j ≤ t.size ∧ i = .int .i64 j ∧ (t.data.toList.take j).all charOk = true) (fun i => t.size - (intOf i).toNat)
        case atStart => exact ⟨0, by omega, rfl, by simp⟩
        case round =>
          obtain ⟨j, hj, rfl, hall⟩ := hrel
          have HC := Lib.hid hall
          clear hall
          by_cases hjl : j < t.size
          · have hjl' : j < t.data.toList.length := by rw [size_list]; exact hjl
            have hce : t.data.toList[j] = t[j] := rfl
            have HE := Lib.hid hce
            clear hce
            by_cases hlo : (t[j].toNat : Int) < 9
            · have hhi : (t[j].toNat : Int) ≤ 126 := by omega
              go_wp2
              go_ret
              refine ⟨ret_eq (congrArg Value.bool ?_), hb1⟩
              refine (plain_no HLS.out hlt ?_).symm
              rw [← HT.out]
              refine plainLine_no hbg (.inl (all_false hjl' ?_))
              rw [HE.out]
              simp [charOk]
              omega
            · by_cases hhi : (126 : Int) < (t[j].toNat : Int)
              · go_wp2
                go_ret
                refine ⟨ret_eq (congrArg Value.bool ?_), hb1⟩
                refine (plain_no HLS.out hlt ?_).symm
                rw [← HT.out]
                refine plainLine_no hbg (.inl (all_false hjl' ?_))
                rw [HE.out]
                simp [charOk]
                omega
              · go_wp2
                go_round
                case rel =>
                  refine ⟨j + 1, by omega, by go_num, all_take_succ hjl' HC.out ?_⟩
                  rw [HE.out]
                  simp [charOk]
                  omega
                case measure => simp [intOf]; omega
          · have HF := Lib.hid (all_of_take (by rw [size_list]; exact hjl) HC.out)
            have hce : t.data.toList.getD (t.data.toList.length - 2) 0 = t[t.size - 2] := by
              rw [size_list]
              simp only [List.getD]
              rw [List.getElem?_eq_getElem (by rw [size_list]; omega)]
              rfl
            have HE := Lib.hid hce
            clear hce HC
            by_cases hr : t[t.size - 2] = 13
            · have hr1 : ((t[t.size - 2].toNat : Int) == 13) = true := by rw [hr]; rfl
              have HR := Lib.hid hr
              clear hr
              go_wp2
              go_ret
              refine ⟨ret_eq (congrArg Value.bool ?_), hb1⟩
              refine (plain_no HLS.out hlt ?_).symm
              rw [← HT.out]
              refine plainLine_no hbg (.inr ?_)
              rw [HE.out, HR.out]
              rfl
            · have hr1 : ((t[t.size - 2].toNat : Int) == 13) = false := by
                have : ¬ t[t.size - 2].toNat = 13 := fun h => hr (by rw [← UInt8.toNat_inj]; exact h)
                simp; omega
              have HR := Lib.hid hr
              clear hr
              go_wp2
              go_round
              case rel =>
                refine ⟨k + 1, by omega, by go_num, all_take_succ hlt HA.out ?_⟩
                rw [← HT.out]
                refine plainLine_yes HF.out ?_
                rw [HE.out]
                simpa using HR.out
              case measure => simp [intOf]; omega
    · go_wp2
      go_ret
      refine ⟨ret_eq (congrArg Value.bool ?_), hb1⟩
      rw [plainB, plainL, ← HLS.out]
      exact (all_of_take hlt HA.out).symm

set_option maxHeartbeats 800000 in
theorem unmarked_any (s : ByteArray) (w : World) (hs : s.size ≤ 4294967295) : Calls Tryd.prog 12 #[.string s] w fun e w' => e = .returned (.bool (unmarkedB s)) ∧ Below w.heap.size w w' := by
  obtain ⟨ls, hls⟩ : ∃ ls, ls = lines s.data.toList := ⟨_, rfl⟩
  have hll := lines_le hls
  have hlen := fun (k : Nat) (hk : k < ls.length) => line_len hls hk
  have HN := Lib.hid hlen
  have HLS := Lib.hid hls
  clear hls hlen
  have hL := Lib.hid (lines_as s w (by omega) ls HLS)
  go_enter Tryd.func12, Tryd.ntmps12
  go_wp2_with fail
  refine hL.out.mono ?_
  rintro e w1 ⟨A, cap, rfl, hcap, hrow, hb1⟩
  clear hL
  go_wp2
  go_loop [8] (fun i => ∃ k : Nat, k ≤ ls.length ∧ i = .int .i64 k ∧ (ls.take k).all (fun x => (mk x).isEmpty) = true) (fun i => ls.length - (intOf i).toNat)
  case atStart => exact ⟨0, by omega, rfl, by simp⟩
  case round =>
    obtain ⟨k, hk, rfl, hall⟩ := hrel
    have HA := Lib.hid hall
    clear hall
    by_cases hlt : k < ls.length
    · obtain ⟨b, o, t, rfl, hb, hc, ht⟩ := row_string hrow hlt
      have hn := HN.out k hlt
      rw [← ht, size_list] at hn
      have HT := Lib.hid ht
      clear ht
      cases hm : (mkS t).toList.isEmpty
      · have HM := Lib.hid (mkS_no hm)
        go_wp2_with (go_at_call 21; refine (marker_any _ _ (by omega) (by omega)).mono ?_; rintro e w' ⟨rfl, rfl⟩)
        go_ret
        refine ⟨ret_eq (congrArg Value.bool ?_), hb1⟩
        rw [unmarkedB, unmarkedL, ← HLS.out, all_false hlt (by rw [← HT.out]; exact HM.out)]
        rfl
      · have HM := Lib.hid (mkS_yes hm)
        go_wp2_with (go_at_call 21; refine (marker_any _ _ (by omega) (by omega)).mono ?_; rintro e w' ⟨rfl, rfl⟩)
        go_round
        case rel => exact ⟨k + 1, by omega, by go_num, all_take_succ hlt HA.out (by rw [← HT.out]; exact HM.out)⟩
        case measure => simp [intOf]; omega
    · go_wp2_with (go_at_call 22; refine (plain_any s _ hs).mono ?_; rintro e w2 ⟨rfl, hb2⟩)
      go_ret
      refine ⟨ret_eq (congrArg Value.bool ?_), hb1.trans (hb2.mono hb1.size)⟩
      rw [unmarkedB, unmarkedL, ← HLS.out, all_of_take hlt HA.out]
      rfl

set_option maxHeartbeats 800000 in
theorem named_any (s : ByteArray) (w : World) (hs : s.size ≤ 4294967295) : Calls Tryd.prog 11 #[.string s] w fun e w' => e = .returned (.bool (namedB s)) ∧ w = w' := by
  go_enter Tryd.func11, Tryd.ntmps11
  go_wp2
  go_loop [3] (fun i => ∃ j : Nat, j ≤ s.size ∧ i = .int .i64 j ∧ (s.data.toList.take j).all nameOk = true) (fun i => s.size - (intOf i).toNat)
  case atStart => exact ⟨0, by omega, rfl, by simp⟩
  case round =>
    obtain ⟨j, hj, rfl, hall⟩ := hrel
    have HC := Lib.hid hall
    clear hall
    by_cases hjl : j < s.size
    · have hjl' : j < s.data.toList.length := by rw [size_list]; exact hjl
      have hce : s.data.toList[j] = s[j] := rfl
      have HE := Lib.hid hce
      clear hce
      by_cases hok : 32 ≤ (s[j].toNat : Int) ∧ (s[j].toNat : Int) ≤ 126
      · obtain ⟨hlo, hhi⟩ := hok
        go_wp2
        go_round
        case rel =>
          refine ⟨j + 1, by omega, by go_num, all_take_succ hjl' HC.out ?_⟩
          rw [HE.out]
          simp [nameOk]
          omega
        case measure => simp [intOf]; omega
      · have HB := Lib.hid (p := namedB s = false) (named_no (all_false hjl' (by rw [HE.out]; simp [nameOk]; omega)))
        by_cases hlo : (s[j].toNat : Int) < 32
        · have hhi : (s[j].toNat : Int) ≤ 126 := by omega
          clear hok
          go_wp2
          go_ret
          exact ⟨ret_eq (congrArg Value.bool HB.out.symm), rfl⟩
        · have hhi : (126 : Int) < (s[j].toNat : Int) := by omega
          clear hok
          go_wp2
          go_ret
          exact ⟨ret_eq (congrArg Value.bool HB.out.symm), rfl⟩
    · have HF := Lib.hid (all_of_take (by rw [size_list]; exact hjl) HC.out)
      clear HC
      cases h0 : s.toList.isEmpty
      · go_wp2_with (go_at_call 16; refine (strip_any _ _ (by omega)).mono ?_; rintro e w' ⟨rfl, rfl⟩)
        go_ret
        refine ⟨ret_eq (congrArg Value.bool ?_), rfl⟩
        exact (named_yes HF.out h0).symm
      · go_wp2
        go_ret
        exact ⟨ret_eq (congrArg Value.bool (named_empty h0).symm), rfl⟩
end Go.Proofs.YtmogecodjiofeaaDoor.Tx
