/-
  ONE START THAT FITS: the heap in which the two listed variables are laid ('World.laidAll': no run of the door): closed facts, a theorem each (so that the kernel gives its memory back behind each).
-/
import Derived.Test.YoebuwDoorLaid
namespace Go.Proofs.YoebuwDoor
open Go.ChangeShapes Go.WideShapes Go.ChangeAt Go.WideMaps Go.WideElems Go.RowKit

theorem start_vars (os : Os) (args : Array Value) : ((World.laidAll Ebug.prog os laidL).forCall (fun _ _ => 0) ⟨#[], args, []⟩).variablesZipB Ebug.prog = true := by kernel_rfl

theorem start_rows (os : Os) (args : Array Value) : (((World.laidAll Ebug.prog os laidL).forCall (fun _ _ => 0) ⟨#[], args, []⟩).heap.toList.drop Ebug.prog.globals.size).take ((begin Ebug.prog (fun _ _ => 0) default).world.heap.size - Ebug.prog.globals.size) =
      (begin Ebug.prog (fun _ _ => 0) default).world.heap.toList.drop Ebug.prog.globals.size := by kernel_rfl

theorem start_shaped (os : Os) (args : Array Value) : ((World.laidAll Ebug.prog os laidL).forCall (fun _ _ => 0) ⟨#[], args, []⟩).Shaped Ebug.prog :=
  World.shaped_of_ZipB (start_vars os args) (start_rows os args)

theorem start_fits (os : Os) : (World.holding Ebug.prog os ⟨#[], #[], []⟩).layFits Ebug.prog laidL [] = true := by kernel_rfl

theorem start_ifaces (os : Os) : (World.holding Ebug.prog os ⟨#[], #[], []⟩).layIfaces Ebug.prog laidL (World.laidAll Ebug.prog os laidL) = true := by kernel_rfl

theorem start_met (os : Os) (args : Array Value) : laidMetH Ebug.prog laidL ((World.laidAll Ebug.prog os laidL).forCall (fun _ _ => 0) ⟨#[], args, []⟩).memory := by
  rw [MakeChecks.laidMetH_plain _ _ _ (by kernel_rfl)]
  exact laidMet_laidAll _ (start_fits os) (start_ifaces os)
end Go.Proofs.YoebuwDoor
