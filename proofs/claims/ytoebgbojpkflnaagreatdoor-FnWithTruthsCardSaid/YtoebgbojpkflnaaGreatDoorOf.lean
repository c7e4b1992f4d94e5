/- The laws' of at a cell of a table: a number, a truth value, an empty cell. -/
import Derived.Test.YtoebgbojpkflnaaGreatDoorCells
namespace Go.Proofs.YtoebgbojpkflnaaGreatDoor
open Go Go.RowKit
def Cel.atom : Cel → Atom
  | .int n => .num (fx n 0)
  | .bool x => .logic x
  | .gap => .empty
theorem boolFl_fx (x : Bool) : boolFl x = fx (if x then 1 else 0) 0 := by cases x <;> decide +kernel
theorem of_gap (w : World) : Calls Tryz.prog 51 #[.agg #[.int .i64 0, .int .i64 0, .int .i64 0, .string ⟨#[]⟩, .slice none 0 0]] w fun e w' => e = .returned (.agg #[.int .i64 0, .float .f64 0, .string ⟨#[]⟩, .slice none 0 0]) ∧ Below w.heap.size w w' := by
  go_enter Tryz.func51, Tryz.ntmps51
  go_wp2
  go_returns
  exact ⟨rfl, by go_grown⟩
theorem of_bool (n : Int) (b : Nat) (cn : ∀ w', (convert 3 34 (.int .i64 n)).run Tryz.prog w' = .ok (.float .f64 b) w') (w : World) :
    Calls Tryz.prog 51 #[.agg #[.int .i64 3, .int .i64 n, .int .i64 0, .string ⟨#[]⟩, .slice none 0 0]] w fun e w' => e = .returned (.agg #[.int .i64 3, .float .f64 b, .string ⟨#[]⟩, .slice none 0 0]) ∧ Below w.heap.size w w' := by
  go_enter Tryz.func51, Tryz.ntmps51
  go_wp2
  go_returns
  exact ⟨rfl, by go_grown⟩
theorem of_cel (c : Cel) (h : c.Ok) (w : World) : Calls Tryz.prog 51 #[.agg c.cells.toArray] w fun e w' => e = .returned c.atom.val ∧ Below w.heap.size w w' := by
  rcases c with n | x | _
  · have hn : n ≤ 100000 := h
    exact of_any (.int n) w ⟨by omega, by omega⟩
  · have hb := boolFl_fx x
    cases x
    · exact of_bool 0 (boolFl false) (by rw [hb]; exact conv_int 0) w
    · exact of_bool 1 (boolFl true) (by rw [hb]; exact conv_int 1) w
  · exact of_gap w
theorem cel_good (c : Cel) (h : c.Ok) : c.atom.Ok := by
  rcases c with n | x | _
  · have hn : n ≤ 100000 := h
    exact good_fx (by omega)
  · trivial
  · trivial
end Go.Proofs.YtoebgbojpkflnaaGreatDoor
