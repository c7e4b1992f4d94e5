/- The witness worlds of fnArabicRow: its listed variables laid. -/
import Derived.Test.YtoebgbojpkflnaaGreatDoorLaid
namespace Go.Proofs.YtoebgbojpkflnaaGreatDoor
open Go Go.RowKit
open Go.ChangeShapes Go.WideShapes Go.ChangeAt
abbrev laidC : List (String × DataW Unit) := Rows.fnArabicRow.laid
set_option maxRecDepth 100000 in
theorem wC1 (os : Os) : (World.laidAll Tryz.prog os laidC).variablesZipB Tryz.prog = true := by kernel_rfl
set_option maxRecDepth 100000 in
theorem wC2 (os : Os) : ((World.laidAll Tryz.prog os laidC).heap.toList.drop Tryz.prog.globals.size).take ((begin Tryz.prog (fun _ _ => 0) default).world.heap.size - Tryz.prog.globals.size) =
      (begin Tryz.prog (fun _ _ => 0) default).world.heap.toList.drop Tryz.prog.globals.size := by kernel_rfl
theorem shapedC (os : Os) : (World.laidAll Tryz.prog os laidC).Shaped Tryz.prog := World.shaped_of_ZipB (wC1 os) (wC2 os)
set_option maxRecDepth 100000 in
theorem fitsC (os : Os) : (World.holding Tryz.prog os ⟨#[], #[], []⟩).layFits Tryz.prog laidC [] = true := by kernel_rfl
set_option maxRecDepth 100000 in
theorem ifacesC (os : Os) : (World.holding Tryz.prog os ⟨#[], #[], []⟩).layIfaces Tryz.prog laidC (World.laidAll Tryz.prog os laidC) = true := by kernel_rfl
end Go.Proofs.YtoebgbojpkflnaaGreatDoor
