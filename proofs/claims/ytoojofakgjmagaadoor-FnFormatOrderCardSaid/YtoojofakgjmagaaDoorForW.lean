/-
  The walk of the statement FnFormatOrder: it answers true at all strings. Condition: the library's four tables as their initialisers lay them.
-/
import Derived.Test.YtoojofakgjmagaaDoorSame
import Derived.Test.YtoojofakgjmagaaDoorImpF
import Derived.Test.YtoojofakgjmagaaDoorSpF
import Derived.Test.YtoojofakgjmagaaDoorSpP
import Derived.BigQuiet
namespace Go.Proofs.YtoojofakgjmagaaDoor.Tx
open Go Go.RowKit

theorem field_files (c : ByteArray) (A : Option Addr) (n cap : Nat) (w : World) : (Instr.field 24 (.agg #[.string c, .slice A n cap]) 1).run Tryd.prog w = .ok (.slice A n cap) w := by
  simp [Instr.field, run_underlying Tryd.underlying24, Result.andThen, part, asAgg, go_sem]
theorem fargs_two {w : World} {g : Nat} {x y z u : ByteArray} {T : TypeId} {fr : Nat × Nat} (hg : w.heap[g]? = some (.cells #[.string x, .string y, .string z, .string u] T fr)) : FArgs w (some ⟨g, 0, none⟩) 2 2 [(x.data.toList, y.data.toList), (z.data.toList, u.data.toList)] := by
  refine ⟨rfl, Nat.le_refl _, fun _ => ⟨g, 0, rfl, Lib.lt_of_heap hg, fun i v hi => ?_⟩⟩
  rw [Lib.cell_of_heap hg]
  match i, hi with
  | 0, hi => simp [fileCells] at hi; subst hi; simp [S_of]
  | 1, hi => simp [fileCells] at hi; subst hi; simp [S_of]
  | 2, hi => simp [fileCells] at hi; subst hi; simp [S_of]
  | 3, hi => simp [fileCells] at hi; subst hi; simp [S_of]

set_option maxHeartbeats 3200000 in
set_option maxRecDepth 100000 in
theorem for_walk (n a b : ByteArray) (w : World) (hT : Tabs w) : Calls Tryd.prog 10 #[.string n, .string a, .string b] w fun e w' => e = .returned (.bool true) ∧ Below w.heap.size w w' := by
  by_cases h1 : (2147483647 : Int) < (n.size : Int)
  · go_enter Tryd.func10, Tryd.ntmps10
    go_wp2
    go_ret
    exact ⟨rfl, Below.refl _ _⟩
  by_cases h2 : (2147483647 : Int) < (a.size : Int)
  · go_enter Tryd.func10, Tryd.ntmps10
    go_wp2
    go_ret
    exact ⟨rfl, Below.refl _ _⟩
  by_cases h3 : (2147483647 : Int) < (b.size : Int)
  · go_enter Tryd.func10, Tryd.ntmps10
    go_wp2
    go_ret
    exact ⟨rfl, Below.refl _ _⟩
  cases hn : namedB n
  · go_enter Tryd.func10, Tryd.ntmps10
    go_wp2_with fail
    refine (named_any n w (by omega)).mono ?_
    rw [hn]
    rintro e w1 ⟨rfl, rfl⟩
    go_wp2
    go_ret
    exact ⟨rfl, Below.refl _ _⟩
  cases hua : unmarkedB a
  · go_enter Tryd.func10, Tryd.ntmps10
    go_wp2_with fail
    refine (named_any n w (by omega)).mono ?_
    rw [hn]
    rintro e w1 ⟨rfl, rfl⟩
    go_wp2_with fail
    refine (unmarked_any a w (by omega)).mono ?_
    rw [hua]
    rintro e w1 ⟨rfl, hb1⟩
    go_wp2
    go_ret
    exact ⟨rfl, hb1⟩
  cases hub : unmarkedB b
  · go_enter Tryd.func10, Tryd.ntmps10
    go_wp2_with fail
    refine (named_any n w (by omega)).mono ?_
    rw [hn]
    rintro e w1 ⟨rfl, rfl⟩
    go_wp2_with fail
    refine (unmarked_any a w (by omega)).mono ?_
    rw [hua]
    rintro e w1 ⟨rfl, hb1⟩
    go_wp2_with fail
    refine (unmarked_any b w1 (by omega)).mono ?_
    rw [hub]
    rintro e w2 ⟨rfl, hb2⟩
    go_wp2
    go_ret
    exact ⟨rfl, hb1.trans (hb2.mono hb1.size)⟩
  obtain ⟨fs, hfs⟩ : ∃ fs, fs = [(n.data.toList, a.data.toList), (n.data.toList, b.data.toList)] := ⟨_, rfl⟩
  have hl1 := size_list n
  have hl2 := size_list a
  have hl3 := size_list b
  have hflen := format_length_le (([], fs) : Bs × List (Bs × Bs))
  rw [hfs] at hflen
  simp only [List.map_cons, List.map_nil, List.sum_cons, List.sum_nil, List.length_nil] at hflen
  rw [← hfs] at hflen
  have hgood : goodL ([], fs) = true := by
    have e1 : namedL n.data.toList = true := hn
    have e2 : unmarkedL a.data.toList = true := hua
    have e3 : unmarkedL b.data.toList = true := hub
    have e4 : unmarkedL [] = true := by decide
    rw [hfs]
    simp [goodL, e1, e2, e3, e4]
  have hpf := law_parseFormat hgood
  obtain ⟨t, ht⟩ : ∃ t, t = S (format ((⟨#[]⟩ : ByteArray).data.toList, fs)) := ⟨_, rfl⟩
  have htz : t.size ≤ 17179869184 := by
    rw [ht, S_size]
    show (format ([], fs)).length ≤ _
    omega
  have HF := Lib.hid (p := Fit64 (⟨#[]⟩ : ByteArray).data.toList fs) (by
    refine ⟨by simp, ?_, by rw [hfs]; simp, ?_⟩
    · rw [hfs]
      intro f hf
      simp at hf
      rcases hf with rfl | rfl <;> constructor <;> simp only <;> omega
    · show (format ([], fs)).length ≤ _
      omega)
  have HPT := Lib.hid (p := (parse t.data.toList).2 = [(n.data.toList, ended a.data.toList), (n.data.toList, ended b.data.toList)]) (by
    rw [ht, S_data]
    show (parse (format ([], fs))).2 = _
    rw [hpf, hfs]
    rfl)
  have HTT := Lib.hid ht
  have HFS := Lib.hid hfs
  have hfd := field_files
  clear ht hfs hflen hgood hpf hl1 hl2 hl3
  go_enter Tryd.func10, Tryd.ntmps10
  go_wp2_with fail
  refine (named_any n w (by omega)).mono ?_
  rw [hn]
  rintro e w1 ⟨rfl, rfl⟩
  go_wp2_with fail
  refine (unmarked_any a w (by omega)).mono ?_
  rw [hua]
  rintro e w1 ⟨rfl, hb1⟩
  go_wp2_with fail
  refine (unmarked_any b w1 (by omega)).mono ?_
  rw [hub]
  rintro e w2 ⟨rfl, hb2'⟩
  have hb2 := hb1.trans (hb2'.mono hb1.size)
  have hb2a : ∀ o, Below w.heap.size w (w2.alloc o) := fun o => hb2.alloc hb2.size o
  clear hb2'
  go_wp2_with fail
  refine (implFormat_any ⟨#[]⟩ (some ⟨w2.heap.size, 0, none⟩) 2 2 fs _ (by rw [HFS.out]; exact fargs_two (heap_alloc_new w2 _)) HF.out).mono ?_
  rw [← HTT.out]
  rintro e w3 ⟨rfl, hb3'⟩
  have hb3 : Below w.heap.size w w3 := (hb2a _).trans (hb3'.mono (hb2a _).size)
  clear hb3' hb2a
  go_wp2_with fail
  refine (implParse_any t w3 htz (hT.below hb3)).mono ?_
  rw [HPT.out]
  rintro e w4 ⟨A, m, cap, rfl, hfa, hb4'⟩
  have hb4 : Below w.heap.size w w4 := hb3.trans (hb4'.mono hb3.size)
  obtain rfl : m = 2 := hfa.1.out
  obtain ⟨g, o, x0, y0, rfl, hgl, q1, q2, q3, q4⟩ := row_file hfa.2.2 (k := 0) (by simp)
  obtain ⟨g', o', x1, y1, he, hgl', r1, r2, r3, r4⟩ := row_file hfa.2.2 (k := 1) (by simp)
  cases he
  obtain rfl : x0 = n := ba_eq (by rw [q3]; rfl)
  obtain rfl : x1 = x0 := ba_eq (by rw [r3]; rfl)
  obtain rfl : y0 = endedS a := ba_eq (by rw [q4, endedS_list]; rfl)
  obtain rfl : y1 = endedS b := ba_eq (by rw [r4, endedS_list]; rfl)
  simp only [Nat.zero_mul, Nat.add_zero, Nat.one_mul] at q1 q2 r1 r2
  clear hfa q3 q4 r3 r4
  go_wp2_with fail
  go_quiet ((go_at_call 20; exact Calls.quiet_of_same (ended_q _ _ (by omega))))
  go_wp2
  go_ret
  exact ⟨rfl, below_drewN hb4 _⟩
end Go.Proofs.YtoojofakgjmagaaDoor.Tx
