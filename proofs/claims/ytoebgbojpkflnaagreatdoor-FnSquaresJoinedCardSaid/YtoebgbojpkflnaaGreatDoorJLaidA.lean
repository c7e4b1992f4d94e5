/- Proof of FnSquaresJoined, a part: The witness worlds of fnSquaresJoinedRow: its listed variables laid. -/
import Derived.Test.YtoebgbojpkflnaaGreatDoorJLaid
namespace Go.Proofs.YtoebgbojpkflnaaGreatDoor
open Go Go.RowKit
open Go.ChangeShapes Go.WideShapes Go.ChangeAt
abbrev laidA : List (String × DataW Unit) := Rows.fnSquaresJoinedRow.laid
set_option maxRecDepth 100000 in
theorem fitsA (os : Os) : (World.holding Tryz.prog os ⟨#[], #[], []⟩).layFits Tryz.prog laidA [] = true := by kernel_rfl
set_option maxRecDepth 100000 in
theorem ifacesA (os : Os) : (World.holding Tryz.prog os ⟨#[], #[], []⟩).layIfaces Tryz.prog laidA (World.laidAll Tryz.prog os laidA) = true := by kernel_rfl
end Go.Proofs.YtoebgbojpkflnaaGreatDoor
