/- The witness worlds: the listed variables laid. -/
import Derived.Test.YtoebgbojpkflnaaGreatDoorTie
import Derived.Test.YtoebgbojpkflnaaGreatDoorCards
import Derived.Lay
import Derived.LaidOnce
import Derived.SevenTiedAt
import Derived.ProofKit
namespace Go.Proofs.YtoebgbojpkflnaaGreatDoor
open Go Go.RowKit
open Go.ChangeShapes Go.WideShapes Go.ChangeAt
theorem Tryz.own : ownKnob Tryz.prog.godebug = none := by kernel_rfl
abbrev laidB : List (String × DataW Unit) := Rows.fnBytesReplacedRow.laid
set_option maxRecDepth 100000 in
theorem wB1 (os : Os) : (World.laidAll Tryz.prog os laidB).variablesZipB Tryz.prog = true := by kernel_rfl
set_option maxRecDepth 100000 in
theorem wB2 (os : Os) : ((World.laidAll Tryz.prog os laidB).heap.toList.drop Tryz.prog.globals.size).take ((begin Tryz.prog (fun _ _ => 0) default).world.heap.size - Tryz.prog.globals.size) =
      (begin Tryz.prog (fun _ _ => 0) default).world.heap.toList.drop Tryz.prog.globals.size := by kernel_rfl
theorem shapedB (os : Os) : (World.laidAll Tryz.prog os laidB).Shaped Tryz.prog := World.shaped_of_ZipB (wB1 os) (wB2 os)
set_option maxRecDepth 100000 in
theorem fitsB (os : Os) : (World.holding Tryz.prog os ⟨#[], #[], []⟩).layFits Tryz.prog laidB [] = true := by kernel_rfl
set_option maxRecDepth 100000 in
theorem ifacesB (os : Os) : (World.holding Tryz.prog os ⟨#[], #[], []⟩).layIfaces Tryz.prog laidB (World.laidAll Tryz.prog os laidB) = true := by kernel_rfl
end Go.Proofs.YtoebgbojpkflnaaGreatDoor
