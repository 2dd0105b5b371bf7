/-
  The walk of the package's isMarker: the name in the first line, and what is behind it. Conditions: slices of at most 2^36 bytes; the library's four tables as their initialisers lay them.
-/
import Derived.Test.YtmogecodjiofeaaDoorTxB
import Derived.Lib.SmallJoins
namespace Go.Proofs.YtmogecodjiofeaaDoor.Tx
open Go Go.RowKit

/-- three bytes of a constant, in a new block -/
theorem const3 (W : World) (a b c : UInt8) (fr : Nat × Nat) : BS True 5 (W.alloc (.cells #[.int .u8 (a.toNat : Int), .int .u8 (b.toNat : Int), .int .u8 (c.toNat : Int)] 5 fr)) (some ⟨W.heap.size, 0, none⟩) 3 3 [a, b, c] := by
  have hg := heap_alloc_new W (.cells #[.int .u8 (a.toNat : Int), .int .u8 (b.toNat : Int), .int .u8 (c.toNat : Int)] 5 fr)
  refine ⟨rfl, Nat.le_refl _, fun _ => Option.some_ne_none _, HeldO.of_block hg, RB.of_new hg fun i x hi => ?_⟩
  match i, hi with
  | 0, hi => simp at hi; subst hi; rfl
  | 1, hi => simp at hi; subst hi; rfl
  | 2, hi => simp at hi; subst hi; rfl
theorem const3_at {W : World} {g : Nat} (hg : g = W.heap.size) (a b c : UInt8) (fr : Nat × Nat) : BS True 5 (W.alloc (.cells #[.int .u8 (a.toNat : Int), .int .u8 (b.toNat : Int), .int .u8 (c.toNat : Int)] 5 fr)) (some ⟨g, 0, none⟩) 3 3 [a, b, c] := by
  subst hg
  exact const3 W a b c fr
theorem headName_no {l : Bs} (h : hasPre l pre = false) : headName l = [] := by
  refine law_isMarkerNot fun hp => ?_
  unfold hasPre at h
  rw [List.isPrefixOf_iff_prefix.2 hp] at h
  cases h

theorem run_slice_win {P : Program} (W : World) (t e : TypeId) (ht : P.underlying t = some (.slice e)) (hz : ∀ w, (Go.sizeOf e).run P w = .ok 1 w) (b o len cap l h : Nat) (hlh : l ≤ h) (hh : h ≤ cap) (hne : ¬ cap = l) :
    (Instr.slice t (.slice (some ⟨b, o, none⟩) len cap) (some (.int .i64 (l : Int))) (some (.int .i64 (h : Int))) none).run P W = .ok (.slice (some ⟨b, o + l, none⟩) (h - l) (cap - l)) W := by
  have ht' : P.underlying t = some (.slice (P.elem t)) := by simp [Program.elem, ht]
  have he : P.elem t = e := by simp [Program.elem, ht]
  rw [run_slice_lh W t _ _ _ ht' .i64 .i64 _ _ (by omega) (by omega) (by omega), he, hz]
  by_cases h0 : l = 0
  · subst h0
    simp [Result.andThen, sliced, Addr.add, hne]
  · simp [Result.andThen, sliced, Addr.add, hne, h0]
theorem name_noSuf {y : Bs} (h : hasSuf y suf = false) : nameWith trim y = [] := by
  unfold nameWith isMk
  unfold hasSuf at h
  simp [h]
theorem name_short {y : Bs} (h : y.length < 6) : nameWith trim y = [] := by
  unfold nameWith isMk
  rw [show decide (6 ≤ y.length) = false by simp; omega]
  simp
theorem name_yes {y : Bs} (hp : hasPre y pre = true) (hs : hasSuf y suf = true) (h6 : 6 ≤ y.length) : nameWith trim y = trim (inner y) := by
  unfold nameWith isMk
  unfold hasPre at hp
  unfold hasSuf at hs
  simp [hp, hs, h6]
theorem cutNL_no : ∀ {l : Bs}, (10 : UInt8) ∉ l → cutNL l = (l, [])
  | [], _ => rfl
  | c :: r, h => by
    have hc : c ≠ 10 := fun e => h (by simp [e])
    simp [cutNL, hc, cutNL_no (l := r) (fun hr => h (by simp [hr]))]

set_option maxHeartbeats 3200000 in
set_option maxRecDepth 100000 in
theorem isMarker_any (A : Option Addr) (n cap : Nat) (l : Bs) (w : World) (h1 : BS False 5 w A n cap l) (hn : n ≤ 68719476736) (hT : Tabs w) :
    Calls Tryd.prog 29 #[.slice A n cap] w fun e w' => ∃ A' n' cap' l', e = .returned (.tuple #[.string (S (headName l)), .slice A' n' cap']) ∧ BS False 5 w' A' n' cap' l' ∧ Hid (headName l ≠ [] → l' = (cutNL l).2) ∧ n' ≤ n ∧ Below w.heap.size w w' := by
  have kc := fun (W : World) (C : Array Value) (n c g : Nat) (hg : g = W.heap.size) => Joins.run_convert_bytes_const_at (P := Tryd.prog) W 42 5 C n c g hg Tryd.underlying42 Tryd.underlying5
  have hb1 : ∀ o, Below w.heap.size w (w.alloc o) := fun o => (Below.refl _ _).alloc (Nat.le_refl _) o
  have hb3 : ∀ W : World, Below w.heap.size w W → ∀ o o2 o3, Below w.heap.size w (((W.alloc o).alloc o2).alloc o3) := fun W h o o2 o3 => by
    have := h.size
    exact ((h.alloc this o).alloc (by simp; omega) o2).alloc (by simp; omega) o3
  have hb5 : ∀ W : World, Below w.heap.size w W → ∀ o o2 o3 o4 o5, Below w.heap.size w (((((W.alloc o).alloc o2).alloc o3).alloc o4).alloc o5) := fun W h o o2 o3 o4 o5 => by
    have := h.size
    exact ((hb3 W h o o2 o3).alloc (by simp; omega) o4).alloc (by simp; omega) o5
  cases hp : hasPre l pre
  · have HN := Lib.hid (headName_no hp)
    go_enter Tryd.func29, Tryd.ntmps29
    go_wp2_with fail
    refine (hasPrefix_w (h1.below (hb1 _)) (const3 w 45 45 32 _)).mono ?_
    rw [show [(45 : UInt8), 45, 32] = pre from rfl, hp]
    rintro e w1 ⟨rfl, rfl⟩
    go_wp2
    go_ret2
    exact ⟨none, 0, 0, [], by rw [HN.out]; rfl, BS.nil_, fun h => absurd HN.out h, by omega, hb1 _⟩
  · have hpl : pre <+: l := List.isPrefixOf_iff_prefix.1 hp
    have hlen3 : 3 ≤ l.length := hpl.length_le
    have hn3 : 3 ≤ n := by rw [h1.len.out]; exact hlen3
    obtain ⟨b, o, rfl, hbw, _⟩ := h1.rb (by rintro rfl; simp at hlen3)
    rcases indexByte_cut l with ⟨hno, hix⟩ | ⟨hin, hix, hlt⟩
    · have HIX := Lib.hid hix
      clear hix
      go_enter Tryd.func29, Tryd.ntmps29
      go_wp2_with fail
      refine (hasPrefix_w (h1.below (hb1 _)) (const3 w 45 45 32 _)).mono ?_
      rw [show [(45 : UInt8), 45, 32] = pre from rfl, hp]
      rintro e w1 ⟨rfl, rfl⟩
      go_wp2_with fail
      refine (indexByte_w (h1.below (hb1 _))).mono ?_
      rw [HIX.out]
      rintro e w1 ⟨rfl, rfl⟩
      have hy : BS False 5 w (some ⟨b, o, none⟩) n cap l := h1
      have HH := Lib.hid (p := headName l = nameWith trim l) (by unfold headName; rw [cutNL_no hno])
      have HPY := Lib.hid hp
      have HA := BS.nil_ (w := w) (e := 5)
      have HL := Lib.hid (p := ([] : Bs) = (cutNL l).2) (by rw [cutNL_no hno])
      go_wp2_with fail
      refine (hasSuffix_w (hy.below (((hb1 _)).alloc ((hb1 _)).size _)) (const3_at (by simp) 32 45 45 _) (by omega)).mono ?_
      rw [show [(32 : UInt8), 45, 45] = suf from rfl]
      cases hsf : hasSuf l suf
      · have HN := Lib.hid (p := headName l = []) (by rw [HH.out]; exact name_noSuf hsf)
        rintro e w2 ⟨rfl, rfl⟩
        go_wp2
        go_ret2
        exact ⟨none, 0, 0, [], by rw [HN.out]; rfl, BS.nil_, fun h => absurd HN.out h, by omega, (hb1 _).alloc ((hb1 _)).size _⟩
      · have hmc := hy.le
        rintro e w2 ⟨rfl, rfl⟩
        by_cases h6 : 6 ≤ n
        · have hc3 : ¬ cap = 3 := by omega
          have hsl : ∀ W : World, (Instr.slice 42 (.slice (some ⟨b, o, none⟩) n cap) (some (.int .i64 3)) (some (.int .i64 ((n : Int) - 3))) none).run Tryd.prog W = .ok (.slice (some ⟨b, o + 3, none⟩) (n - 6) (cap - 3)) W := fun W => by
            have := run_slice_win (P := Tryd.prog) W 42 5 Tryd.underlying42 (fun w => by kernel_rfl) b o n cap 3 (n - 3) (by omega) (by omega) (by omega)
            rw [show n - 3 - 3 = n - 6 by omega, show ((n - 3 : Nat) : Int) = (n : Int) - 3 by omega] at this
            exact this
          have hin : BS False 5 w (some ⟨b, o + 3, none⟩) (n - 6) (cap - 3) (inner l) := by
            have h3 := hy.drop (k := 3) (by omega)
            rw [if_neg hc3] at h3
            simp only [Option.map_some, add_plain] at h3
            have h4 := h3.take (k := n - 6) (by omega)
            unfold inner
            rw [← hy.len.out]
            exact h4
          obtain ⟨s, hs⟩ : ∃ s, s = S (inner l) := ⟨_, rfl⟩
          have hcv : ∀ W : World, Below w.heap.size w W → (convert 42 9 (.slice (some ⟨b, o + 3, none⟩) (n - 6) (cap - 3))).run Tryd.prog W = .ok (.string s) W := fun W hW => by
            rw [hs]
            exact (hin.below hW).rb.strN (P := Tryd.prog) hin.len 42 5 9 Tryd.underlying42 Tryd.underlying5 Tryd.underlying9 _
          have hcv6 := (fun o1 o2 o3 o4 o5 o6 => hcv _ (hb5 _ (hb1 o1) o2 o3 o4 o5 o6))
          have hsz : s.size ≤ 68719476736 := by
            rw [hs, S_size, ← hin.len.out]
            omega
          have HS := Lib.hid hs
          clear hs hcv
          have hd6 : decide ((6 : Int) ≤ (n : Int)) = true := by
            rw [decide_eq_true_eq]
            omega
          go_wp2_with fail
          all_goals try (exfalso; omega)
          refine (trim_w s _ hsz (hT.below (hb5 _ (hb1 _) _ _ _ _ _))).mono ?_
          rintro e w3 ⟨rfl, hb3'⟩
          go_wp2
          go_ret2
          have hb7 : Below w.heap.size w w3 := (hb5 _ (hb1 _) _ _ _ _ _).trans (hb3'.mono (hb5 _ (hb1 _) _ _ _ _ _).size)
          exact ⟨none, 0, 0, [], by rw [HH.out, name_yes HPY.out hsf (by rw [← hy.len.out]; exact h6)]; unfold trimS; rw [HS.out, S_data]; rfl, HA.below hb7, fun _ => HL.out, by omega, hb7⟩
        · have HN := Lib.hid (p := headName l = []) (by rw [HH.out]; exact name_short (by rw [← hy.len.out]; omega))
          have hd6 : decide ((6 : Int) ≤ (n : Int)) = false := by
            rw [decide_eq_false_iff_not]
            omega
          go_wp2
          go_ret2
          exact ⟨none, 0, 0, [], by rw [HN.out]; rfl, BS.nil_, fun h => absurd HN.out h, by omega, hb3 _ (hb1 _) _ _ _⟩
    · obtain ⟨m, hm⟩ : ∃ m, m = (cutNL l).1.length := ⟨_, rfl⟩
      obtain ⟨y, hy0⟩ : ∃ y, y = (cutNL l).1 := ⟨_, rfl⟩
      have hty : y = l.take m := by
        rw [hy0, hm]
        exact List.prefix_iff_eq_take.1 (cutNL_prefix l)
      rw [← hm] at hix hlt
      have hmn : m < n := by rw [h1.len.out]; exact hlt
      have hcn := h1.le
      have hy : BS False 5 w (some ⟨b, o, none⟩) m cap y := by
        rw [hty]
        exact h1.take (by omega)
      have HH := Lib.hid (p := headName l = nameWith trim y) (by unfold headName; rw [hy0])
      have HPY := Lib.hid (p := hasPre y pre = true) (by
        obtain ⟨t, ht⟩ := hpl
        rw [hy0, ← ht]
        simp [cutNL, pre, hasPre])
      obtain ⟨A', hA'⟩ : ∃ A', A' = if cap = m + 1 then some ⟨b, o, none⟩ else some (⟨b, o + (m + 1), none⟩ : Addr) := ⟨_, rfl⟩
      obtain ⟨n', hn'⟩ : ∃ n', n' = n - (m + 1) := ⟨_, rfl⟩
      obtain ⟨c', hc'⟩ : ∃ c', c' = cap - (m + 1) := ⟨_, rfl⟩
      obtain ⟨l', hl'⟩ : ∃ l', l' = l.drop (m + 1) := ⟨_, rfl⟩
      have HA : BS False 5 w A' n' c' l' := by
        have h3 := h1.drop (k := m + 1) (by omega)
        simp only [Option.map_some, add_plain] at h3
        rw [hA', hn', hc', hl']
        exact h3
      have HL := Lib.hid (p := l' = (cutNL l).2) (by rw [cutNL_drop, ← hm, hl'])
      have hs1 : ∀ W : World, (Instr.slice 42 (.slice (some ⟨b, o, none⟩) n cap) none (some (.int .i64 (m : Int))) none).run Tryd.prog W = .ok (.slice (some ⟨b, o, none⟩) m cap) W := fun W => by
        rw [run_slice_h W _ _ _ _ (by kernel_rfl) .i64 _ (by omega) (by omega), show Tryd.prog.elem 42 = 5 from by kernel_rfl, show (Go.sizeOf 5).run Tryd.prog W = .ok 1 W from by kernel_rfl]
        simp [Result.andThen, sliced, Addr.add]
      have hs2 : ∀ W : World, (Instr.slice 42 (.slice (some ⟨b, o, none⟩) n cap) (some (.int .i64 ((m : Int) + 1))) none none).run Tryd.prog W = .ok (.slice A' n' c') W := fun W => by
        rw [run_slice_l W _ _ _ _ (by kernel_rfl) .i64 _ (by omega) (by omega), show Tryd.prog.elem 42 = 5 from by kernel_rfl, show (Go.sizeOf 5).run Tryd.prog W = .ok 1 W from by kernel_rfl]
        simp only [Result.andThen, sliced]
        rw [show ((m : Int) + 1).toNat = m + 1 by omega, hA', hn', hc', Nat.mul_one]
        simp only [Option.map_some, add_plain]
      have HIX := Lib.hid hix
      have hge : (0 : Int) ≤ m := by omega
      have hw1 : IntKind.i64.wrap ((m : Int) + 1) = (m : Int) + 1 := IntWalk.i64_in _ (by omega)
      have hnn : n' ≤ n := by omega
      clear hix hm hy0 hty hlt hA' hn' hc' hl' hin
      go_enter Tryd.func29, Tryd.ntmps29
      go_wp2_with fail
      refine (hasPrefix_w (h1.below (hb1 _)) (const3 w 45 45 32 _)).mono ?_
      rw [show [(45 : UInt8), 45, 32] = pre from rfl, hp]
      rintro e w1 ⟨rfl, rfl⟩
      go_wp2_with fail
      refine (indexByte_w (h1.below (hb1 _))).mono ?_
      rw [HIX.out]
      rintro e w1 ⟨rfl, rfl⟩
      go_wp2_with fail
      go_quiet (fail)
      clear hs1 hs2
      go_wp2_with fail
      refine (hasSuffix_w (hy.below (((below_drewN (hb1 _) _)).alloc ((below_drewN (hb1 _) _)).size _)) (const3_at (by simp) 32 45 45 _) (by omega)).mono ?_
      rw [show [(32 : UInt8), 45, 45] = suf from rfl]
      cases hsf : hasSuf y suf
      · have HN := Lib.hid (p := headName l = []) (by rw [HH.out]; exact name_noSuf hsf)
        rintro e w2 ⟨rfl, rfl⟩
        go_wp2
        go_ret2
        exact ⟨none, 0, 0, [], by rw [HN.out]; rfl, BS.nil_, fun h => absurd HN.out h, by omega, (below_drewN (hb1 _) _).alloc ((below_drewN (hb1 _) _)).size _⟩
      · have hmc := hy.le
        rintro e w2 ⟨rfl, rfl⟩
        by_cases h6 : 6 ≤ m
        · have hc3 : ¬ cap = 3 := by omega
          have hsl : ∀ W : World, (Instr.slice 42 (.slice (some ⟨b, o, none⟩) m cap) (some (.int .i64 3)) (some (.int .i64 ((m : Int) - 3))) none).run Tryd.prog W = .ok (.slice (some ⟨b, o + 3, none⟩) (m - 6) (cap - 3)) W := fun W => by
            have := run_slice_win (P := Tryd.prog) W 42 5 Tryd.underlying42 (fun w => by kernel_rfl) b o m cap 3 (m - 3) (by omega) (by omega) (by omega)
            rw [show m - 3 - 3 = m - 6 by omega, show ((m - 3 : Nat) : Int) = (m : Int) - 3 by omega] at this
            exact this
          have hin : BS False 5 w (some ⟨b, o + 3, none⟩) (m - 6) (cap - 3) (inner y) := by
            have h3 := hy.drop (k := 3) (by omega)
            rw [if_neg hc3] at h3
            simp only [Option.map_some, add_plain] at h3
            have h4 := h3.take (k := m - 6) (by omega)
            unfold inner
            rw [← hy.len.out]
            exact h4
          obtain ⟨s, hs⟩ : ∃ s, s = S (inner y) := ⟨_, rfl⟩
          have hcv : ∀ W : World, Below w.heap.size w W → (convert 42 9 (.slice (some ⟨b, o + 3, none⟩) (m - 6) (cap - 3))).run Tryd.prog W = .ok (.string s) W := fun W hW => by
            rw [hs]
            exact (hin.below hW).rb.strN (P := Tryd.prog) hin.len 42 5 9 Tryd.underlying42 Tryd.underlying5 Tryd.underlying9 _
          have hcv6 := (fun j o1 o2 o3 o4 o5 o6 => hcv _ (hb5 _ (below_drewN (hb1 o1) j) o2 o3 o4 o5 o6))
          have hsz : s.size ≤ 68719476736 := by
            rw [hs, S_size, ← hin.len.out]
            omega
          have HS := Lib.hid hs
          clear hs hcv
          have hd6 : decide ((6 : Int) ≤ (m : Int)) = true := by
            rw [decide_eq_true_eq]
            omega
          go_wp2_with fail
          all_goals try (exfalso; omega)
          refine (trim_w s _ hsz (hT.below (hb5 _ (below_drewN (hb1 _) _) _ _ _ _ _))).mono ?_
          rintro e w3 ⟨rfl, hb3'⟩
          go_wp2
          go_ret2
          have hb7 : Below w.heap.size w w3 := (hb5 _ (below_drewN (hb1 _) _) _ _ _ _ _).trans (hb3'.mono (hb5 _ (below_drewN (hb1 _) _) _ _ _ _ _).size)
          exact ⟨A', n', c', l', by rw [HH.out, name_yes HPY.out hsf (by rw [← hy.len.out]; exact h6)]; unfold trimS; rw [HS.out, S_data]; rfl, HA.below hb7, fun _ => HL.out, by omega, hb7⟩
        · have HN := Lib.hid (p := headName l = []) (by rw [HH.out]; exact name_short (by rw [← hy.len.out]; omega))
          have hd6 : decide ((6 : Int) ≤ (m : Int)) = false := by
            rw [decide_eq_false_iff_not]
            omega
          go_wp2
          go_ret2
          exact ⟨none, 0, 0, [], by rw [HN.out]; rfl, BS.nil_, fun h => absurd HN.out h, by omega, hb3 _ (below_drewN (hb1 _) _) _ _ _⟩
end Go.Proofs.YtmogecodjiofeaaDoor.Tx
