/-
  The walk of the statement FnParseSize: it answers true at every string. Condition: the library's four tables as their initialisers lay them.
-/
import Derived.Test.YtmogecodjiofeaaDoorFld
namespace Go.Proofs.YtmogecodjiofeaaDoor.Tx
open Go Go.RowKit

def sizeSum (fs : List (Bs × Bs)) : Nat := (fs.map fun f => f.2.length + f.1.length + 6).sum
theorem sizeSum_take_succ {fs : List (Bs × Bs)} {k : Nat} (hk : k < fs.length) : sizeSum (fs.take (k + 1)) = sizeSum (fs.take k) + (fs[k].2.length + fs[k].1.length + 6) := by
  unfold sizeSum
  rw [List.take_succ_eq_append_getElem hk, List.map_append, List.sum_append]
  simp
theorem sizeSum_take_le : ∀ (fs : List (Bs × Bs)) (k : Nat), sizeSum (fs.take k) ≤ sizeSum fs
  | [], k => by simp
  | x :: r, 0 => by simp [sizeSum]
  | x :: r, k + 1 => by
    have := sizeSum_take_le r k
    unfold sizeSum at this ⊢
    simp only [List.take_succ_cons, List.map_cons, List.sum_cons]
    omega

set_option maxHeartbeats 1600000 in
set_option maxRecDepth 100000 in
theorem psz_walk (s : ByteArray) (w : World) (hT : Tabs w) : Calls Tryd.prog 8 #[.string s] w fun e w' => e = .returned (.bool true) ∧ Below w.heap.size w w' := by
  by_cases hs : (2147483647 : Int) < (s.size : Int)
  · go_enter Tryd.func8, Tryd.ntmps8
    go_wp2
    go_ret
    exact ⟨rfl, Below.refl _ _⟩
  · have hp := law_parseSize s.data.toList
    rw [size_list] at hp
    obtain ⟨c, hc⟩ : ∃ c, c = S (parse s.data.toList).1 := ⟨_, rfl⟩
    obtain ⟨fs, hfs⟩ : ∃ fs, fs = (parse s.data.toList).2 := ⟨_, rfl⟩
    have htot : ∀ k, c.size + sizeSum (fs.take k) ≤ s.size + 1 := fun k => by
      have := sizeSum_take_le fs k
      rw [hfs] at this
      rw [hc, S_size, hfs]
      unfold sizeSum at this ⊢
      omega
    have HTOT := Lib.hid htot
    have HN := Lib.hid (p := fs.length ≤ 4294967296) (by
      have := files_count s.data.toList
      rw [size_list] at this
      rw [hfs]
      omega)
    have HC := Lib.hid hc
    have HFS := Lib.hid hfs
    clear hp hc hfs htot
    go_enter Tryd.func8, Tryd.ntmps8
    go_wp2_with fail
    refine (implParse_any s w (by omega) hT).mono ?_
    rw [← HC.out, ← HFS.out]
    rintro e w3 ⟨B, n, cp, rfl, ha, hb3⟩
    have hsz3 := hb3.size
    have hn64 : n ≤ 4294967296 := by rw [ha.1.out]; exact HN.out
    go_wp2_with fail
    go_loopw [4, 21] (fun v i wr => ∃ (j m : Nat), j ≤ n ∧ i = .int .i64 j ∧ v = .int .i64 m ∧ Hid (m = c.size + sizeSum (fs.take j)) ∧ Below w.heap.size w wr ∧ Below w3.heap.size w3 wr) (fun _ i _ => n - (intOf i).toNat)
    case atStart => exact ⟨0, c.size, by omega, rfl, rfl, by simp [Hid, sizeSum], hb3.alloc hsz3 _, (Below.refl _ _).alloc (Nat.le_refl _) _⟩
    case round =>
      obtain ⟨j, m, hj, rfl, rfl, HM, hb4, hb34⟩ := hrel
      have hms : m ≤ s.size + 1 := by rw [HM.out]; exact HTOT.out j
      have hsz4 := hb4.size
      by_cases hlj : j < n
      · have hjl : j < fs.length := by rw [← ha.1.out]; exact hlj
        obtain ⟨b', off', s', t', rfl, hbw', hc1', hc2', hs', ht'⟩ := row_file (ha.2.2.below hb34) hjl
        have hsum : m + (t'.size + s'.size + 6) ≤ s.size + 1 := by
          have h1 := HTOT.out (j + 1)
          rw [sizeSum_take_succ hjl, ← hs', ← ht', size_list, size_list] at h1
          rw [HM.out]
          omega
        have HE := Lib.hid (p := m + (t'.size + s'.size + 6) = c.size + sizeSum (fs.take (j + 1))) (by
          rw [sizeSum_take_succ hjl, ← hs', ← ht', size_list, size_list, HM.out]
          omega)
        clear hs' ht'
        go_wp2
        go_roundw
        case rel =>
          refine ⟨j + 1, m + (t'.size + s'.size + 6), by omega, by go_num, by go_num, HE, hb4.alloc hsz4 _, hb34.alloc hb34.size _⟩
        case measure => simp [intOf]; omega
      · have hle : (m : Int) ≤ (s.size : Int) + 1 := by omega
        go_wp2_with fail
        refine (reads_any _ (hT.below hb4)).mono ?_
        rintro e w5 ⟨rfl, hb5⟩
        go_wp2
        go_ret
        exact ⟨rfl, hb4.trans (hb5.mono hb4.size)⟩
end Go.Proofs.YtmogecodjiofeaaDoor.Tx
