/-
  The walks of the package's search and of isMarker, with the library's HasPrefix, HasSuffix, IndexByte, TrimSpace by the kit's contracts. Conditions: slices of at most 2^36 bytes; the library's four tables as their initialisers lay them.
-/
import Derived.Test.YtmogecodjiofeaaDoorShelf
import Derived.Test.YtmogecodjiofeaaDoorTxA
import Derived.Test.YtmogecodjiofeaaDoorLaws
import Derived.Lib.SlBytesRow
import Derived.WalkLawsBesides
namespace Go.Proofs.YtmogecodjiofeaaDoor.Tx
open Go Go.RowKit

/-! ### the library -/
def hasPre (l p : Bs) : Bool := p.isPrefixOf l
def hasSuf (l p : Bs) : Bool := p.isSuffixOf l
theorem BS.bytesIn {q : Prop} {e : TypeId} {w : World} {A : Option Addr} {n cap : Nat} {l : Bs} (h : BS q e w A n cap l) : Lib.BytesIn w A n (nums l) := by
  rw [h.len.out]
  exact h.rb.bytesIn
theorem hasPrefix_w {q q' : Prop} {A B : Option Addr} {n c m d : Nat} {l p : Bs} {w : World} (h1 : BS q 5 w A n c l) (h2 : BS q' 5 w B m d p) :
    Calls Tryd.prog 32 #[.slice A n c, .slice B m d] w fun e w' => e = .returned (.bool (hasPre l p)) ∧ w = w' :=
  (Tryd.bytes_HasPrefix_all A B n c m d (nums l) (nums p) w (by rw [nums_length]; exact h1.len.out.symm) (by rw [nums_length]; exact h2.len.out.symm) h1.le h1.bytesIn h2.bytesIn).mono fun e w' ⟨he, hw⟩ => ⟨by rw [he, bytesOf_nums, bytesOf_nums]; rfl, hw.symm⟩
theorem hasSuffix_w {q q' : Prop} {A B : Option Addr} {n c m d : Nat} {l p : Bs} {w : World} (h1 : BS q 5 w A n c l) (h2 : BS q' 5 w B m d p) (hb : n ≤ 68719476736) :
    Calls Tryd.prog 34 #[.slice A n c, .slice B m d] w fun e w' => e = .returned (.bool (hasSuf l p)) ∧ w = w' :=
  (Tryd.bytes_HasSuffix_all A B n c m d (nums l) (nums p) w (by rw [nums_length]; exact h1.len.out.symm) (by rw [nums_length]; exact h2.len.out.symm) h1.le (by omega) h1.bytesIn h2.bytesIn).mono fun e w' ⟨he, hw⟩ => ⟨by rw [he, bytesOf_nums, bytesOf_nums]; rfl, hw.symm⟩
theorem indexByte_w {q : Prop} {a : Addr} {n c : Nat} {l : Bs} {w : World} (h1 : BS q 5 w (some a) n c l) :
    Calls Tryd.prog 33 #[.slice (some a) n c, .int .u8 10] w fun e w' => e = .returned (.int .i64 (Lib.indexByte l 10)) ∧ w = w' := by
  refine (Tryd.bytes_IndexByte_at a n c (nums l) 10 w (by rw [nums_length]; exact h1.len.out.symm) (fun i hi => ?_)).mono fun e w' ⟨he, hw⟩ => ⟨by rw [he, bytesOf_nums]; rfl, hw.symm⟩
  have hil : i < l.length := by rw [← h1.len.out]; exact hi
  rw [nums_getD l i hil]
  have := h1.rb.cells i (.int .u8 (l[i].toNat : Int)) (by simp [cellsOf, hil])
  exact this
theorem indexByte_cut : ∀ l : Bs, ((10 : UInt8) ∉ l ∧ Lib.indexByte l 10 = -1) ∨ ((10 : UInt8) ∈ l ∧ Lib.indexByte l 10 = ((cutNL l).1.length : Int) ∧ (cutNL l).1.length < l.length)
  | [] => .inl ⟨by simp, rfl⟩
  | c :: r => by
    by_cases hc : c = 10
    · subst hc
      exact .inr ⟨by simp, by simp [Lib.indexByte, cutNL], by simp [cutNL]⟩
    · have hb : (c == 10) = false := by simpa using hc
      rcases indexByte_cut r with ⟨h1, h2⟩ | ⟨h1, h2, h3⟩
      · refine .inl ⟨by simp [h1]; exact fun e => hc e.symm, ?_⟩
        simp [Lib.indexByte, hc, h2]
      · refine .inr ⟨by simp [h1], ?_, by simp [cutNL, hc]; exact h3⟩
        have hne : ¬ (((cutNL r).1.length : Int) = -1) := by omega
        simp [Lib.indexByte, hc, h2, cutNL]

/-- the library's four tables, as their initialisers lay them -/
def Tabs (w : World) : Prop := Lib.TabIs Tryd.prog w "strings.asciiSpace" .u8 Lib.asciiSpaceTab ∧ Lib.Utf8Tabs 3 4 w ∧ Lib.WhiteTab 2 w
theorem gAscii : Tryd.prog.globalNamed "strings.asciiSpace" = some 0 := by kernel_rfl
theorem Tabs.below {w w' : World} (h : Tabs w) (hb : Below w.heap.size w w') : Tabs w' := by
  obtain ⟨h1, h2, h3⟩ := h
  refine ⟨?_, Utf8Tabs_below h2 hb, WhiteTab_below h3 hb⟩
  have hlt : 0 < w.heap.size := by
    unfold Lib.TabIs World.var? at h1
    rw [gAscii] at h1
    simp only [Option.bind_some] at h1
    rcases Nat.lt_or_ge 0 w.heap.size with h' | h'
    · exact h'
    · rw [Array.getElem?_eq_none h'] at h1
      simp at h1
  exact var?_below hb gAscii hlt h1
/-- strings.TrimSpace's result, as a word of its own -/
def trimS (s : ByteArray) : ByteArray := S (trim s.data.toList)
theorem trim_w (s : ByteArray) (w : World) (hs : s.size ≤ 68719476736) (hT : Tabs w) : Calls Tryd.prog 35 #[.string s] w fun e w' => e = .returned (.string (trimS s)) ∧ Below w.heap.size w w' :=
  Tryd.strings_TrimSpace_any s w (by omega) hT.1 hT.2.1 hT.2.2

/-! ### bytesIndex, at the four bytes that the package looks for -/
def idxInt (l : Bs) : Int := match index sep l with | none => -1 | some j => j
theorem index_skip {l : Bs} {k : Nat} (hk : k < l.length) (h : ¬ sep <+: l.drop k) : index sep (l.drop k) = (index sep (l.drop (k + 1))).map (· + 1) := by
  rw [List.drop_eq_getElem_cons hk] at h ⊢
  rw [index]
  have : sep.isPrefixOf (l[k] :: l.drop (k + 1)) = false := by
    cases hp : sep.isPrefixOf (l[k] :: l.drop (k + 1)) with
    | false => rfl
    | true => exact absurd (List.isPrefixOf_iff_prefix.1 hp) h
  rw [this]
  rfl
theorem index_short {l : Bs} (h : l.length < 4) : index sep l = none := by
  cases hi : index sep l with
  | none => rfl
  | some j =>
    have := (index_lt hi).1
    simp [sep] at this
    omega
theorem index_here {l : Bs} {k : Nat} (hk : k < l.length) (h : sep <+: l.drop k) : index sep (l.drop k) = some 0 := by
  rw [List.drop_eq_getElem_cons hk] at h ⊢
  rw [index, List.isPrefixOf_iff_prefix.2 h]
  rfl

set_option maxHeartbeats 1600000 in
set_option maxRecDepth 100000 in
theorem bytesIndex_any (A B : Option Addr) (n cap d : Nat) (l : Bs) (w : World) (h1 : BS False 5 w A n cap l) (h2 : BS True 5 w B 4 d sep) (hn : n ≤ 68719476736) :
    Calls Tryd.prog 30 #[.slice A n cap, .slice B 4 d] w fun e w' => e = .returned (.int .i64 (idxInt l)) ∧ Below w.heap.size w w' := by
  have hcap := h1.le
  go_enter Tryd.func30, Tryd.ntmps30
  go_wp2
  go_loopw [5] (fun i wr => ∃ k : Nat, k ≤ n + 1 ∧ i = .int .i64 k ∧ index sep l = (index sep (l.drop k)).map (· + k) ∧ Below w.heap.size w wr) (fun i _ => n + 1 - (intOf i).toNat)
  case atStart => exact ⟨0, by omega, rfl, by simp, Below.refl _ _⟩
  case round =>
    obtain ⟨k, hk, rfl, hix, hb⟩ := hrel
    have HIX := Lib.hid hix
    clear hix
    by_cases hlt : k + 4 ≤ n
    · have hkl : k < l.length := by rw [← h1.len.out]; omega
      have hne : l ≠ [] := by rintro rfl; simp at hkl
      obtain ⟨b, o, rfl, hbw, _⟩ := h1.rb hne
      have hck : ¬ cap = k := by omega
      have hsl : ∀ W : World, (Instr.slice 42 (.slice (some ⟨b, o, none⟩) n cap) (some (.int .i64 (k : Int))) (some (.int .i64 ((k : Int) + 4))) none).run Tryd.prog W = .ok (.slice (some ⟨b, o + k, none⟩) 4 (cap - k)) W := fun W => by
        have := Lib.run_slice_window (P := Tryd.prog) W 42 5 Tryd.underlying42 (fun w => by kernel_rfl) b o n cap k (k + 4) (by omega) (by omega)
        rw [show k + 4 - k = 4 by omega] at this
        exact this
      obtain ⟨x, hx⟩ : ∃ x, x = (l.drop k).take 4 := ⟨_, rfl⟩
      have hbs1 : BS False 5 w (some ⟨b, o + k, none⟩) 4 (cap - k) x := by
        have h3 := h1.drop (k := k) (by omega)
        rw [if_neg hck] at h3
        simp only [Option.map_some, add_plain] at h3
        rw [hx]
        exact h3.take (by omega)
      have hcv1 : ∀ j : Nat, (convert 42 9 (.slice (some ⟨b, o + k, none⟩) 4 (cap - k))).run Tryd.prog (wr.drewN j) = .ok (.string (S x)) (wr.drewN j) := fun j =>
        (hbs1.below (below_drewN hb j)).rb.strN (P := Tryd.prog) hbs1.len 42 5 9 Tryd.underlying42 Tryd.underlying5 Tryd.underlying9 _
      have hcv2 : ∀ j : Nat, (convert 42 9 (.slice B 4 d)).run Tryd.prog (wr.drewN j) = .ok (.string (S sep)) (wr.drewN j) := fun j =>
        (h2.below (below_drewN hb j)).rb.strN (P := Tryd.prog) h2.len 42 5 9 Tryd.underlying42 Tryd.underlying5 Tryd.underlying9 _
      obtain ⟨s1, hs1⟩ : ∃ s1, s1 = S x := ⟨_, rfl⟩
      obtain ⟨s2, hs2⟩ : ∃ s2, s2 = S sep := ⟨_, rfl⟩
      rw [← hs1] at hcv1
      rw [← hs2] at hcv2
      have hw4 : IntKind.i64.wrap ((k : Int) + 4) = (k : Int) + 4 := IntWalk.i64_in _ (by omega)
      have hcmp : (s1.toList == s2.toList) = decide (sep <+: l.drop k) := by
        rw [hs1, hs2, Lib.toList_data, Lib.toList_data, S_data, S_data, hx, Bool.eq_iff_iff, beq_iff_eq, decide_eq_true_eq]
        constructor
        · intro h
          exact ⟨(l.drop k).drop 4, by conv => lhs; arg 1; rw [← h]
                                       exact List.take_append_drop _ _⟩
        · rintro ⟨t, ht⟩
          rw [← ht]
          rfl
      have HCMP := Lib.hid hcmp
      clear hcmp hs1 hs2 hx hbs1
      cases hc : (s1.toList == s2.toList)
      · have hno : ¬ sep <+: l.drop k := by
          have := HCMP.out
          rw [hc] at this
          simpa using this.symm
        go_wp2_with fail
        go_quiet (fail)
        clear hsl hcv1 hcv2 hw4
        go_wp2
        go_roundw
        case rel =>
          refine ⟨k + 1, by omega, by go_num, ?_, below_drewN hb _⟩
          rw [HIX.out, index_skip hkl hno, Option.map_map]
          congr 1
          funext j
          simp only [Function.comp]
          omega
        case measure => simp [intOf]; omega
      · have hyes : sep <+: l.drop k := by
          have := HCMP.out
          rw [hc] at this
          simpa using this.symm
        have HR := Lib.hid (p := idxInt l = (k : Int)) (by unfold idxInt; rw [HIX.out, index_here hkl hyes]; simp)
        go_wp2_with fail
        go_quiet (fail)
        clear hsl hcv1 hcv2 hw4
        go_wp2
        go_ret
        exact ⟨ret_eq (congrArg (Value.int .i64) HR.out.symm), below_drewN hb _⟩
    · have HR := Lib.hid (p := idxInt l = -1) (by
        unfold idxInt
        rw [HIX.out, index_short (by rw [List.length_drop, ← h1.len.out]; omega)]
        rfl)
      go_wp2
      go_ret
      exact ⟨ret_eq (congrArg (Value.int .i64) HR.out.symm), hb⟩
end Go.Proofs.YtmogecodjiofeaaDoor.Tx
