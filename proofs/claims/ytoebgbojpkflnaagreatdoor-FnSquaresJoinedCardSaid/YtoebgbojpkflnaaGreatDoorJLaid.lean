/- Proof of FnSquaresJoined, a part: The witness worlds: the listed variables laid. -/
import Derived.Test.YtoebgbojpkflnaaGreatDoorTie
import Derived.Test.YtoebgbojpkflnaaGreatDoorCards
import Derived.Lay
import Derived.LaidOnce
import Derived.SevenTiedAt
import Derived.ProofKit
namespace Go.Proofs.YtoebgbojpkflnaaGreatDoor
open Go Go.RowKit
open Go.ChangeShapes Go.WideShapes Go.ChangeAt
theorem Tryz.own : ownKnob Tryz.prog.godebug = none := by kernel_rfl
end Go.Proofs.YtoebgbojpkflnaaGreatDoor
namespace Go.Proofs.YtoebgbojpkflnaaGreatDoor
open Go Go.RowKit
set_option maxRecDepth 100000
theorem and_true2 {a b : Bool} (ha : a = true) (hb : b = true) : (a && b) = true := by rw [ha, hb]; rfl
theorem cl_laid : laidOutB Tryz.pinned.checked.prog = true := by kernel_rfl
theorem cl_maps : mapsRowed Tryz.pinned.checked.prog = true := by kernel_rfl
theorem cl_heard : Tryz.pinned.checked.prog.stopsHeard = true := by kernel_rfl
theorem cl_enter : Tryz.pinned.checked.prog.mayEnter = true := by kernel_rfl
end Go.Proofs.YtoebgbojpkflnaaGreatDoor
