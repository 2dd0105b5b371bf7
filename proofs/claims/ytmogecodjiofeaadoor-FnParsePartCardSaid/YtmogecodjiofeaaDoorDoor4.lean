/-
  A world for the witnesses of the statements that read: the settled heap, with two blocks more, the listed variables holding what their initialisers lay. No condition.
-/
import Derived.Test.YtmogecodjiofeaaDoorRows
import Derived.Test.YtmogecodjiofeaaDoorTabs
import Derived.LaidMore
import Derived.Deep.DeepHandedRow
import Derived.Deep.DeepWitnessRowRef
import Derived.Test.YtmogecodjiofeaaDoorDoor
namespace Go.Proofs.YtmogecodjiofeaaDoor.Tx
open Go

noncomputable def doorW4 (os : Os) : World :=
  let N := (World.settled Tryd.prog os).heap.size
  let w0 := World.holding Tryd.prog os ⟨#[.cells (Lib.whiteT.map fun (z : Nat) => Value.int .u16 (z : Int)).toArray (Tryd.lays163_ren.t 198), .cells #[.slice (some ⟨N, 0, none⟩) 7 7, .slice none 0 0, .int .i64 2] (Tryd.lays163_ren.t 196)], #[], []⟩
  let put (h : Array Obj) (g : Nat) (cs : Array Value) : Array Obj := h.modify g fun
    | .cells _ t frozen => .cells cs t frozen
    | o => o
  let h1 := put w0.heap 0 (Lib.asciiSpaceTab.map fun z => Value.int .u8 z).toArray
  let h2 := put h1 3 (Lib.firstTab.map fun z => Value.int .u8 z).toArray
  let h3 := put h2 4 ((List.range 16).flatMap fun i => [Value.int .u8 (Lib.accLo i), Value.int .u8 (Lib.accHi i)]).toArray
  let h4 := put h3 2 #[.pointer (some ⟨N + 1, 0, none⟩)]
  { w0 with heap := h4 }
theorem door4_vars (os : Os) (args : Array Value) : ((doorW4 os).forCall (fun _ _ => 0) ⟨#[], args, []⟩).variablesRefB Tryd.checked.prog = true := by kernel_rfl
theorem door4_rest (os : Os) (args : Array Value) : (((doorW4 os).forCall (fun _ _ => 0) ⟨#[], args, []⟩).heap.toList.drop Tryd.checked.prog.globals.size).take ((begin Tryd.checked.prog (fun _ _ => 0) default).world.heap.size - Tryd.checked.prog.globals.size) =
      (begin Tryd.checked.prog (fun _ _ => 0) default).world.heap.toList.drop Tryd.checked.prog.globals.size := by kernel_rfl
theorem door4_met4 (os : Os) (args : Array Value) : laidMet Tryd.prog [("unicode/utf8.acceptRanges", Rows.laid_unicode_utf8_acceptRanges), ("unicode.White_Space", Rows.laid_unicode_White_Space), ("strings.asciiSpace", Rows.laid_strings_asciiSpace), ("unicode/utf8.first", Rows.laid_unicode_utf8_first)] ((doorW4 os).forCall (fun _ _ => 0) ⟨#[], args, []⟩).memory :=
  laidMet_of_run' 10 (by kernel_rfl) (by kernel_rfl)
end Go.Proofs.YtmogecodjiofeaaDoor.Tx
