/- The witness worlds of fnSquaresJoinedRow: its listed variables laid. -/
import Derived.Test.YtoebgbojpkflnaaGreatDoorLaid
namespace Go.Proofs.YtoebgbojpkflnaaGreatDoor
open Go Go.RowKit
open Go.ChangeShapes Go.WideShapes Go.ChangeAt
abbrev laidA : List (String × DataW Unit) := Rows.fnSquaresJoinedRow.laid
set_option maxRecDepth 100000 in
theorem wA1 (os : Os) : (World.laidAll Tryz.prog os laidA).variablesZipB Tryz.prog = true := by kernel_rfl
set_option maxRecDepth 100000 in
theorem wA2 (os : Os) : ((World.laidAll Tryz.prog os laidA).heap.toList.drop Tryz.prog.globals.size).take ((begin Tryz.prog (fun _ _ => 0) default).world.heap.size - Tryz.prog.globals.size) =
      (begin Tryz.prog (fun _ _ => 0) default).world.heap.toList.drop Tryz.prog.globals.size := by kernel_rfl
theorem shapedA (os : Os) : (World.laidAll Tryz.prog os laidA).Shaped Tryz.prog := World.shaped_of_ZipB (wA1 os) (wA2 os)
set_option maxRecDepth 100000 in
theorem fitsA (os : Os) : (World.holding Tryz.prog os ⟨#[], #[], []⟩).layFits Tryz.prog laidA [] = true := by kernel_rfl
set_option maxRecDepth 100000 in
theorem ifacesA (os : Os) : (World.holding Tryz.prog os ⟨#[], #[], []⟩).layIfaces Tryz.prog laidA (World.laidAll Tryz.prog os laidA) = true := by kernel_rfl
end Go.Proofs.YtoebgbojpkflnaaGreatDoor
