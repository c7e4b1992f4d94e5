/- Proof of FnSquaresJoined, a part: The laws' all: a row of cells as arguments. -/
import Derived.Test.YtoebgbojpkflnaaGreatDoorJRepl
import Derived.Test.YtoebgbojpkflnaaGreatDoorJSums
namespace Go.Proofs.YtoebgbojpkflnaaGreatDoor
open Go Go.RowKit
theorem five_of {l : List Value} (h : l.length = 5) : ∃ x0 x1 x2 x3 x4, l = [x0, x1, x2, x3, x4] := by
  match l, h with
  | [x0, x1, x2, x3, x4], _ => exact ⟨x0, x1, x2, x3, x4, rfl⟩
end Go.Proofs.YtoebgbojpkflnaaGreatDoor
