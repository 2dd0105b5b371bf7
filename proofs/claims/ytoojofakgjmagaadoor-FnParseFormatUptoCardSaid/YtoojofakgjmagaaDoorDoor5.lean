/-
  A world for the witnesses of the statements that read: the settled heap, with three blocks more, the listed variables holding what their initialisers lay. No condition.
-/
import Derived.Test.YtoojofakgjmagaaDoorRows
import Derived.Test.YtoojofakgjmagaaDoorTabs
import Derived.LaidMore
import Derived.Deep.DeepHandedRow
import Derived.Deep.DeepWitnessRowRef
import Derived.Test.YtoojofakgjmagaaDoorDoor
namespace Go.Proofs.YtoojofakgjmagaaDoor.Tx
open Go

noncomputable def doorW5 (os : Os) : World :=
  let N := (World.settled Tryd.prog os).heap.size
  let w0 := World.holding Tryd.prog os ⟨#[.cells (Lib.whiteT.map fun (z : Nat) => Value.int .u16 (z : Int)).toArray (Tryd.lays163_ren.t 198), .cells #[.slice (some ⟨N, 0, none⟩) 7 7, .slice none 0 0, .int .i64 2] (Tryd.lays163_ren.t 196), .cells #[.string "bytes.Buffer: too large".toUTF8] 119], #[], []⟩
  let put (h : Array Obj) (g : Nat) (cs : Array Value) : Array Obj := h.modify g fun
    | .cells _ t frozen => .cells cs t frozen
    | o => o
  let h1 := put w0.heap 1 (Lib.asciiSpaceTab.map fun z => Value.int .u8 z).toArray
  let h2 := put h1 4 (Lib.firstTab.map fun z => Value.int .u8 z).toArray
  let h3 := put h2 5 ((List.range 16).flatMap fun i => [Value.int .u8 (Lib.accLo i), Value.int .u8 (Lib.accHi i)]).toArray
  let h4 := put h3 3 #[.pointer (some ⟨N + 1, 0, none⟩)]
  let h5 := put h4 0 #[.iface 103 (.pointer (some ⟨N + 2, 0, none⟩))]
  { w0 with heap := h5 }
theorem door5_vars (os : Os) (args : Array Value) : ((doorW5 os).forCall (fun _ _ => 0) ⟨#[], args, []⟩).variablesRefB Tryd.checked.prog = true := by kernel_rfl
theorem door5_rest (os : Os) (args : Array Value) : (((doorW5 os).forCall (fun _ _ => 0) ⟨#[], args, []⟩).heap.toList.drop Tryd.checked.prog.globals.size).take ((begin Tryd.checked.prog (fun _ _ => 0) default).world.heap.size - Tryd.checked.prog.globals.size) =
      (begin Tryd.checked.prog (fun _ _ => 0) default).world.heap.toList.drop Tryd.checked.prog.globals.size := by kernel_rfl
theorem door5_met5 (os : Os) (args : Array Value) : laidMet Tryd.prog [("unicode/utf8.acceptRanges", Rows.laid_unicode_utf8_acceptRanges), ("unicode.White_Space", Rows.laid_unicode_White_Space), ("bytes.ErrTooLarge", Rows.laid_bytes_ErrTooLarge), ("strings.asciiSpace", Rows.laid_strings_asciiSpace), ("unicode/utf8.first", Rows.laid_unicode_utf8_first)] ((doorW5 os).forCall (fun _ _ => 0) ⟨#[], args, []⟩).memory :=
  laidMet_of_run' 10 (by kernel_rfl) (by kernel_rfl)
end Go.Proofs.YtoojofakgjmagaaDoor.Tx
