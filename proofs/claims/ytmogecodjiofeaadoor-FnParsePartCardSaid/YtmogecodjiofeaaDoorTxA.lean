/-
  The walks of the package's small functions: fixNL. It says what the plain layer says, at every slice of bytes (nil, empty or not) of at most 2^36 bytes.
-/
import Derived.Test.YtmogecodjiofeaaDoorEnd
import Derived.Laws.CopyOwn
namespace Go.Proofs.YtmogecodjiofeaaDoor.Tx
open Go Go.RowKit

theorem infoU8 : (Tryd.prog.info? 5).map (fun i => (i.zero, i.size, i.bytes)) = some (some (.int .u8 0), 1, 1) := by kernel_rfl
theorem sizeU8 : (Tryd.prog.info? 5).map (·.size) = some 1 := by kernel_rfl

/-- n zero bytes, as a word of its own -/
def zeros (n : Nat) : Array Value := madeCells #[.int .u8 0] n
theorem zeros_size (n : Nat) : (zeros n).size = n := size_madeCells _ _
set_option maxRecDepth 100000 in
set_option maxHeartbeats 800000 in
theorem fixNL_any (q : Prop) (A : Option Addr) (n cap : Nat) (l : Bs) (w : World) (hbs : BS q 5 w A n cap l) (hb : n ≤ 68719476736) :
    Calls Tryd.prog 31 #[.slice A n cap] w fun e w' => ∃ A' n' cap', e = .returned (.slice A' n' cap') ∧ BS q 5 w' A' n' cap' (ended l) ∧ Below w.heap.size w w' := by
  have hn := hbs.len
  have hcap := hbs.le
  have hr := hbs.rb
  by_cases h0 : n = 0
  · subst h0
    have hl : l = [] := List.eq_nil_of_length_eq_zero hn.out.symm
    subst hl
    go_enter Tryd.func31, Tryd.ntmps31
    go_wp2
    go_ret
    exact ⟨A, 0, cap, rfl, hbs, Below.refl _ _⟩
  · have hne : l ≠ [] := by rintro rfl; exact h0 hn.out
    obtain ⟨f, g, hg⟩ := snoc_of hne
    have hlast : l[n - 1]? = some g := by rw [hn.out, hg]; simp
    obtain ⟨b, o, rfl, hbw, hc⟩ := hr.at_ hlast
    have h0' : ((n : Int) == 0) = false := by simp; omega
    by_cases h10 : g = 10
    · have hc1 : ((g.toNat : Int) == 10) = true := by rw [h10]; rfl
      have HE := Lib.hid (p := ended l = l) (ended_of_last (by rw [hg, h10]; simp))
      clear hlast hg h10
      go_enter Tryd.func31, Tryd.ntmps31
      go_wp2
      go_ret
      refine ⟨_, n, cap, rfl, ?_, Below.refl _ _⟩
      rw [HE.out]; exact hbs
    · have hc1 : ((g.toNat : Int) == 10) = false := by
        have : ¬ g.toNat = 10 := fun h => h10 (by rw [← UInt8.toNat_inj]; exact h)
        simp; omega
      have HE := Lib.hid (p := ended l = l ++ [10]) (by unfold ended; rw [if_neg hne, hg]; simp [h10])
      clear hlast hg h10
      obtain ⟨i0, hi, hz0, hz1, hz2⟩ := info_parts infoU8
      have hmk : ∀ u : World, (Instr.makeSlice 42 (.int .i64 ((n : Int) + 1)) (.int .i64 ((n : Int) + 1))).run Tryd.prog u =
          .ok (.slice (some ⟨u.heap.size, 0, none⟩) (n + 1) (n + 1)) (u.alloc (.cells (zeros (n + 1)) 5)) := fun u => by
        have h := run_make (P := Tryd.prog) u 42 5 i0 (.int .u8 0) Tryd.underlying42 hi hz0 .i64 .i64 ((n : Int) + 1) ((n : Int) + 1) (by omega) (Int.le_refl _) (by rw [hz2]; omega) (by omega)
        have e : ((n : Int) + 1).toNat = n + 1 := by omega
        rw [e] at h
        simpa [hz1, Value.cells, zeros] using h
      clear hz0 hz1 hz2 hi
      go_enter Tryd.func31, Tryd.ntmps31
      have hcl : (cellsOf l).length = n := by rw [cellsOf_length]; exact hn.out.symm
      have HCL := Lib.hid hcl
      obtain ⟨cs, hcs⟩ : ∃ cs, cs = cellsOf l := ⟨_, rfl⟩
      have HCS := Lib.hid hcs
      have hcsl : cs.length = n := by rw [hcs]; exact hcl
      have HSL := Lib.hid hcsl
      have h1c : Hid (∀ v ∈ cs, v.oneCell' = true) := by rw [hcs]; exact cellsOf_one l
      have hsrc : Hid (∀ (j : Nat) v, cs[j]? = some v → w.cell? ⟨b, o + j, none⟩ = some v) := by
        intro j v hj
        rw [hcs] at hj
        have := hr.cells j v hj
        rwa [add_plain] at this
      clear hcl hcs hcsl
      go_wp2_with (with_reducible refine wpList_copy_splice rfl (.tmp 21) (.tmp 22) 42 42 rfl 5 Tryd.underlying42 sizeU8 (some ⟨w.heap.size, 0, none⟩) (some ⟨b, o, none⟩) (n + 1) (n + 1) n cap rfl rfl w.heap.size 0 (zeros (n + 1)).toList 5 ?g1 cs ?g2 ?g3 ?g4 h1c.out w.heap.size w ((Below.refl _ _).alloc (Nat.le_refl _) _) (Nat.le_refl _) ?_)
      case g1 => exact heap_alloc_new w _
      case g2 => rw [HSL.out]; exact (Nat.min_eq_left (by omega)).symm
      case g3 => exact fun _ => hsrc.out
      case g4 => rw [HSL.out, Array.length_toList, zeros_size]; omega
      intro w2 hg2 hb2
      have hz2 : w2.heap[w.heap.size]? = some (.cells (splice (zeros (n + 1)).toList 0 cs).toArray 5 (0, 0)) := hg2.out
      have hlen2 : (splice (zeros (n + 1)).toList 0 cs).length = n + 1 := by
        rw [length_splice _ _ _ (by rw [HSL.out, Array.length_toList, zeros_size]; omega), Array.length_toList, zeros_size]
      obtain ⟨row, hrow⟩ : ∃ row, row = (splice (zeros (n + 1)).toList 0 cs).toArray := ⟨_, rfl⟩
      rw [← hrow] at hz2
      have hrs : row.size = n + 1 := by rw [hrow]; simpa using hlen2
      have hcn : w2.cell? ⟨w.heap.size, n, none⟩ = some (row[n]'(by omega)) := by
        rw [Lib.cell_of_heap hz2]
        exact Array.getElem?_eq_getElem (by omega)
      have hfn : w2.frozen? ⟨w.heap.size, n, none⟩ = false := by
        simp [World.frozen?, hz2]
      obtain ⟨old, hold⟩ : ∃ old, old = row[n]'(by omega) := ⟨_, rfl⟩
      rw [← hold] at hcn
      have HROW := Lib.hid hrow
      have HZ2 := Lib.hid hz2
      have HRS := Lib.hid hrs
      clear hold hrow hz2 hrs hlen2 hg2 hmk
      go_wp2
      go_ret
      refine ⟨_, n + 1, n + 1, rfl, ⟨?_, Nat.le_refl _, fun _ => Option.some_ne_none _, ?_, ?_⟩, hb2.setCell (Nat.le_refl _) _⟩
      · show n + 1 = _
        rw [HE.out, List.length_append, ← hn.out]; rfl
      · have hset : (w2.setCell ⟨w.heap.size, n, none⟩ (.int .u8 10)).heap[w.heap.size]? = some (.cells (row.setIfInBounds n (.int .u8 10)) 5 (0, 0)) := by
          have := HZ2.out
          simp [World.setCell, Array.getElem?_modify, this]
        exact HeldO.of_block hset
      · have hset : (w2.setCell ⟨w.heap.size, n, none⟩ (.int .u8 10)).heap[w.heap.size]? = some (.cells (row.setIfInBounds n (.int .u8 10)) 5 (0, 0)) := by
          have := HZ2.out
          simp [World.setCell, Array.getElem?_modify, this]
        refine RB.of_new hset fun i x hi => ?_
        rw [HE.out] at hi
        rw [Array.getElem?_setIfInBounds]
        by_cases hin : n = i
        · subst hin
          rw [if_pos rfl, if_pos (by rw [HRS.out]; omega)]
          rw [List.getElem?_append_right (by rw [← hn.out]; exact Nat.le_refl _), ← hn.out, Nat.sub_self] at hi
          simp at hi
          rw [← hi]
          rfl
        · rw [if_neg hin]
          have hil : i < l.length := by
            have := (List.getElem?_eq_some_iff.1 hi).1
            rw [List.length_append, ← hn.out] at this
            have h2 := hn.out
            simp at this
            omega
          rw [List.getElem?_append_left hil] at hi
          rw [HROW.out, List.getElem?_toArray, splice, List.take_zero, List.nil_append, List.getElem?_append_left (by rw [HSL.out, hn.out]; exact hil), HCS.out, cellsOf, List.getElem?_map, hi]
          rfl
end Go.Proofs.YtmogecodjiofeaaDoor.Tx
