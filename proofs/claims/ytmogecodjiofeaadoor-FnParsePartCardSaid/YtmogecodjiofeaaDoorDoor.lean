/-
  A world for the witnesses: the heap that the program's own initialisers leave meets each row's list of variables. No condition.
-/
import Derived.Test.YtmogecodjiofeaaDoorRows
import Derived.LaidMore
import Derived.Deep.DeepHandedRow
import Derived.Deep.DeepWitnessRowRef
namespace Go.Proofs.YtmogecodjiofeaaDoor.Tx
open Go

theorem own : ownKnob Tryd.prog.godebug = none := by kernel_rfl
noncomputable def doorW (os : Os) : World := World.doorLaid Tryd.prog 4000 os
theorem door_vars (os : Os) (args : Array Value) : ((doorW os).forCall (fun _ _ => 0) ⟨#[], args, []⟩).variablesRefB Tryd.checked.prog = true := by kernel_rfl
theorem door_rest (os : Os) (args : Array Value) : (((doorW os).forCall (fun _ _ => 0) ⟨#[], args, []⟩).heap.toList.drop Tryd.checked.prog.globals.size).take ((begin Tryd.checked.prog (fun _ _ => 0) default).world.heap.size - Tryd.checked.prog.globals.size) =
      (begin Tryd.checked.prog (fun _ _ => 0) default).world.heap.toList.drop Tryd.checked.prog.globals.size := by kernel_rfl
end Go.Proofs.YtmogecodjiofeaaDoor.Tx
