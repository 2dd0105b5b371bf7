/-
  The walk of the package's findFileMarker: what is ahead of the next marker, its name, what is behind it. Conditions: slices of at most 2^36 bytes; the library's four tables as their initialisers lay them.
-/
import Derived.Test.YtmogecodjiofeaaDoorTxC
import Derived.OwnWalk
namespace Go.Proofs.YtmogecodjiofeaaDoor.Tx
open Go Go.RowKit

theorem const4_at {W : World} {g : Nat} (hg : g = W.heap.size) (a b c d : UInt8) (fr : Nat × Nat) : BS True 5 (W.alloc (.cells #[.int .u8 (a.toNat : Int), .int .u8 (b.toNat : Int), .int .u8 (c.toNat : Int), .int .u8 (d.toNat : Int)] 5 fr)) (some ⟨g, 0, none⟩) 4 4 [a, b, c, d] := by
  subst hg
  have hg := heap_alloc_new W (.cells #[.int .u8 (a.toNat : Int), .int .u8 (b.toNat : Int), .int .u8 (c.toNat : Int), .int .u8 (d.toNat : Int)] 5 fr)
  refine ⟨rfl, Nat.le_refl _, fun _ => Option.some_ne_none _, HeldO.of_block hg, RB.of_new hg fun i x hi => ?_⟩
  match i, hi with
  | 0, hi => simp at hi; subst hi; rfl
  | 1, hi => simp at hi; subst hi; rfl
  | 2, hi => simp at hi; subst hi; rfl
  | 3, hi => simp at hi; subst hi; rfl
theorem map_add0 (A : Option Addr) : A.map (·.add 0) = A := by
  cases A with
  | none => rfl
  | some a => simp [Addr.add]
theorem S_nonempty {x : Bs} (h : x ≠ []) : (S x).toList.isEmpty = false := by
  rw [Lib.toList_data, S_data]
  simpa using h

set_option maxHeartbeats 1000000 in
set_option maxRecDepth 100000 in
theorem find_any (A : Option Addr) (n cap : Nat) (l : Bs) (w : World) (h1 : BS False 5 w A n cap l) (hn : n ≤ 68719476736) (hT : Tabs w) :
    Calls Tryd.prog 28 #[.slice A n cap] w fun e w' => ∃ A1 n1 c1 A2 n2 c2 s, e = .returned (.tuple #[.slice A1 n1 c1, .string s, .slice A2 n2 c2]) ∧
      BS False 5 w' A1 n1 c1 (find nm l).1 ∧ BS False 5 w' A2 n2 c2 (find nm l).2.2 ∧ Hid (s = S (find nm l).2.1) ∧ n1 ≤ n + 1 ∧ n2 ≤ n ∧ Below w.heap.size w w' := by
  have kc := fun (W : World) (C : Array Value) (n c g : Nat) (hg : g = W.heap.size) => Joins.run_convert_bytes_const_at (P := Tryd.prog) W 42 5 C n c g hg Tryd.underlying42 Tryd.underlying5
  have hcn := h1.le
  go_enter Tryd.func28, Tryd.ntmps28
  go_wp2
  go_loopw [5] (fun i wr => ∃ k : Nat, k ≤ n ∧ i = .int .i64 k ∧ Hid (findFrom l k = find nm l) ∧ Below w.heap.size w wr) (fun i _ => n - (intOf i).toNat)
  case atStart => exact ⟨0, by omega, rfl, findFrom_zero l, Below.refl _ _⟩
  case round =>
    obtain ⟨k, hk, rfl, HF, hb⟩ := hrel
    obtain ⟨l', hl'⟩ : ∃ l', l' = l.drop k := ⟨_, rfl⟩
    by_cases hck : cap = k
    · have HA : BS False 5 w A 0 0 l' := by
        have h3 := h1.drop hk
        rw [if_pos hck, show cap - k = 0 by omega, show n - k = 0 by omega] at h3
        rw [hl']
        exact h3
      subst hck
      have HL := Lib.hid hl'
      clear hl'
      have hsz := hb.size
      by_cases hh : headName l' = []
      · go_wp2_with fail
        with_reducible refine (isMarker_any A 0 0 l' _ (HA.below hb) (by omega) (hT.below hb)).mono ?_
        rw [hh]
        obtain ⟨s, hs⟩ : ∃ s, s = S [] := ⟨_, rfl⟩
        have hse : s.toList.isEmpty = true := by rw [hs, Lib.toList_data, S_data]; rfl
        rw [← hs]
        clear hs
        rintro e w2 ⟨A2, n2, c2, l2, rfl, HB2, -, hn2, hb2'⟩
        have hb2 : Below w.heap.size w w2 := hb.trans (hb2'.mono hb.size)
        have hsz2 := hb2.size
        go_wp2_with fail
        refine (bytesIndex_any A (some ⟨w2.heap.size, 0, none⟩) 0 0 4 l' _ (HA.below (hb2.alloc hb2.size _)) (const4_at rfl 10 45 45 32 _) (by omega)).mono ?_
        rintro e w3 ⟨rfl, hb3'⟩
        have hb3 : Below w.heap.size w w3 := (hb2.alloc hb2.size _).trans (hb3'.mono (hb2.alloc hb2.size _).size)
        cases hj : index sep l' with
        | none =>
          rw [show idxInt l' = -1 by unfold idxInt; rw [hj]]
          go_wp2_with fail
          refine (fixNL_any False A n cap l _ (h1.below hb3) hn).mono ?_
          rintro e w4 ⟨A4, n4, c4, rfl, HB4, hb4'⟩
          have hb4 : Below w.heap.size w w4 := hb3.trans (hb4'.mono hb3.size)
          have HE := Lib.hid (p := find nm l = (ended l, [], [])) (by rw [← HF.out]; exact find_end l cap (by rw [← HL.out]; exact hh) (by rw [← HL.out]; exact hj))
          go_wp2
          go_ret3
          refine ⟨A4, n4, c4, none, 0, 0, _, rfl, by rw [HE.out]; exact HB4, by rw [HE.out]; exact BS.nil_, by rw [HE.out]; rfl, ?_, by omega, hb4⟩
          rw [HB4.len.out, h1.len.out]
          exact ended_length l
        | some j =>
          rw [show idxInt l' = j by unfold idxInt; rw [hj]]
          have hjl : j + 4 ≤ 0 := by
            have := (index_lt hj).1
            rw [HA.len.out]
            exact this
          have hw1 : IntKind.i64.wrap ((j : Int) + 1) = (j : Int) + 1 := IntWalk.i64_in _ (by omega)
          have hw2 : IntKind.i64.wrap ((cap : Int) + ((j : Int) + 1)) = (cap : Int) + ((j : Int) + 1) := IntWalk.i64_in _ (by omega)
          first
          | exfalso; omega
          | go_wp2
            go_roundw
            case rel =>
              refine ⟨cap + j + 1, by omega, by go_num, ?_, hb3⟩
              refine Lib.hid ?_
              rw [← find_step l cap j (by rw [← HL.out]; exact hh) (by rw [← HL.out]; exact hj)]
              exact HF.out
            case measure => simp [intOf] <;> omega
      · have HE := Lib.hid (p := find nm l = (l.take cap, headName l', (cutNL l').2)) (by rw [← HF.out, HL.out]; exact findFrom_hit l cap (by rw [← HL.out]; exact hh))
        obtain ⟨s, hs⟩ : ∃ s, s = S (headName l') := ⟨_, rfl⟩
        have hse : s.toList.isEmpty = false := by rw [hs]; exact S_nonempty hh
        have HS := Lib.hid hs
        go_wp2_with fail
        with_reducible refine (isMarker_any A 0 0 l' _ (HA.below hb) (by omega) (hT.below hb)).mono ?_
        rw [← hs]
        rintro e w2 ⟨A2, n2, c2, l2, rfl, HB2, HL2, hn2, hb2'⟩
        have hb2 : Below w.heap.size w w2 := hb.trans (hb2'.mono hb.size)
        have hsz2 := hb2.size
        clear hs
        go_wp2
        go_ret3
        refine ⟨A, cap, cap, A2, n2, c2, s, rfl, by rw [HE.out]; exact (h1.take hk).below hb2, by rw [HE.out]; have := HL2.out hh; rw [← this]; exact HB2, by rw [HE.out]; exact HS, by omega, by omega, hb2⟩
    · have HA : BS False 5 w (A.map (·.add k)) (n - k) (cap - k) l' := by
        have h3 := h1.drop hk
        rw [if_neg hck] at h3
        rw [hl']
        exact h3
      have HL := Lib.hid hl'
      clear hl'
      have hsz := hb.size
      by_cases hh : headName l' = []
      · go_wp2_with fail
        with_reducible refine (isMarker_any (A.map (·.add k)) (n - k) (cap - k) l' _ (HA.below hb) (by omega) (hT.below hb)).mono ?_
        rw [hh]
        obtain ⟨s, hs⟩ : ∃ s, s = S [] := ⟨_, rfl⟩
        have hse : s.toList.isEmpty = true := by rw [hs, Lib.toList_data, S_data]; rfl
        rw [← hs]
        clear hs
        rintro e w2 ⟨A2, n2, c2, l2, rfl, HB2, -, hn2, hb2'⟩
        have hb2 : Below w.heap.size w w2 := hb.trans (hb2'.mono hb.size)
        have hsz2 := hb2.size
        go_wp2_with fail
        refine (bytesIndex_any (A.map (·.add k)) (some ⟨w2.heap.size, 0, none⟩) (n - k) (cap - k) 4 l' _ (HA.below (hb2.alloc hb2.size _)) (const4_at rfl 10 45 45 32 _) (by omega)).mono ?_
        rintro e w3 ⟨rfl, hb3'⟩
        have hb3 : Below w.heap.size w w3 := (hb2.alloc hb2.size _).trans (hb3'.mono (hb2.alloc hb2.size _).size)
        cases hj : index sep l' with
        | none =>
          rw [show idxInt l' = -1 by unfold idxInt; rw [hj]]
          go_wp2_with fail
          refine (fixNL_any False A n cap l _ (h1.below hb3) hn).mono ?_
          rintro e w4 ⟨A4, n4, c4, rfl, HB4, hb4'⟩
          have hb4 : Below w.heap.size w w4 := hb3.trans (hb4'.mono hb3.size)
          have HE := Lib.hid (p := find nm l = (ended l, [], [])) (by rw [← HF.out]; exact find_end l k (by rw [← HL.out]; exact hh) (by rw [← HL.out]; exact hj))
          go_wp2
          go_ret3
          refine ⟨A4, n4, c4, none, 0, 0, _, rfl, by rw [HE.out]; exact HB4, by rw [HE.out]; exact BS.nil_, by rw [HE.out]; rfl, ?_, by omega, hb4⟩
          rw [HB4.len.out, h1.len.out]
          exact ended_length l
        | some j =>
          rw [show idxInt l' = j by unfold idxInt; rw [hj]]
          have hjl : j + 4 ≤ (n - k) := by
            have := (index_lt hj).1
            rw [HA.len.out]
            exact this
          have hw1 : IntKind.i64.wrap ((j : Int) + 1) = (j : Int) + 1 := IntWalk.i64_in _ (by omega)
          have hw2 : IntKind.i64.wrap ((k : Int) + ((j : Int) + 1)) = (k : Int) + ((j : Int) + 1) := IntWalk.i64_in _ (by omega)
          first
          | exfalso; omega
          | go_wp2
            go_roundw
            case rel =>
              refine ⟨k + j + 1, by omega, by go_num, ?_, hb3⟩
              refine Lib.hid ?_
              rw [← find_step l k j (by rw [← HL.out]; exact hh) (by rw [← HL.out]; exact hj)]
              exact HF.out
            case measure => simp [intOf] <;> omega
      · have HE := Lib.hid (p := find nm l = (l.take k, headName l', (cutNL l').2)) (by rw [← HF.out, HL.out]; exact findFrom_hit l k (by rw [← HL.out]; exact hh))
        obtain ⟨s, hs⟩ : ∃ s, s = S (headName l') := ⟨_, rfl⟩
        have hse : s.toList.isEmpty = false := by rw [hs]; exact S_nonempty hh
        have HS := Lib.hid hs
        go_wp2_with fail
        with_reducible refine (isMarker_any (A.map (·.add k)) (n - k) (cap - k) l' _ (HA.below hb) (by omega) (hT.below hb)).mono ?_
        rw [← hs]
        rintro e w2 ⟨A2, n2, c2, l2, rfl, HB2, HL2, hn2, hb2'⟩
        have hb2 : Below w.heap.size w w2 := hb.trans (hb2'.mono hb.size)
        have hsz2 := hb2.size
        clear hs
        go_wp2
        go_ret3
        refine ⟨A, k, cap, A2, n2, c2, s, rfl, by rw [HE.out]; exact (h1.take hk).below hb2, by rw [HE.out]; have := HL2.out hh; rw [← this]; exact HB2, by rw [HE.out]; exact HS, by omega, by omega, hb2⟩
end Go.Proofs.YtmogecodjiofeaaDoor.Tx
