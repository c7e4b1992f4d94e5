/- Proof of FnSquaresJoined, a part: The laws' combNum and combAny: a number, and a text of decimal digits, turned back into a number. -/
import Derived.Deep.RegionWith
import Derived.Outline
import Derived.Carry
import Derived.Shelf.Strings.OnBuilder
import Derived.Test.YtoebgbojpkflnaaGreatDoorProg
import Derived.MapKept
import Derived.Test.YtoebgbojpkflnaaGreatDoorRows
import Derived.ChangeArms
import Derived.Lib.LaidTab
import Derived.MakeChecks
import Derived.LaidSub
import Derived.Deep.Draws
import Derived.Shelf.LaysM
import Derived.Shelf.Bytes.String
import Derived.Shelf.Bytes.WriteStringKept
import Derived.Test.YtoebgbojpkflnaaGreatDoorJKit
import Derived.Test.YtoebgbojpkflnaaGreatDoorJFl
import Derived.Test.YtoebgbojpkflnaaGreatDoorJRepl
import Derived.Test.YtoebgbojpkflnaaGreatDoorJTrunc
import Derived.Test.YtoebgbojpkflnaaGreatDoorJFmtAll
namespace Go.Proofs.YtoebgbojpkflnaaGreatDoor
open Go Go.RowKit
theorem order_hi {n : Int} (h1 : -1000000000000000 ≤ n) (h2 : n ≤ 1000000000000000) : FloatKind.f64.format.order (fx n 0) 4831355200913801216 = some (compare n 1000000000000000) := by
  have e : (4831355200913801216 : Nat) = fx 1000000000000000 0 := by decide +kernel
  rw [e]
  exact order_reads (reads_fx _ _ (by omega) (by omega) (by omega)) (reads_fx _ _ (by omega) (by omega) (by omega))
theorem order_lo {n : Int} (h1 : -1000000000000000 ≤ n) (h2 : n ≤ 1000000000000000) : FloatKind.f64.format.order (fx n 0) 14054727237768577024 = some (compare n (-1000000000000000)) := by
  have e : (14054727237768577024 : Nat) = fx (-1000000000000000) 0 := by decide +kernel
  rw [e]
  exact order_reads (reads_fx _ _ (by omega) (by omega) (by omega)) (reads_fx _ _ (by omega) (by omega) (by omega))
set_option maxRecDepth 20000 in
set_option maxHeartbeats 1000000 in
theorem combNum_any (n : Int) (h1 : -100000000000000 ≤ n) (h2 : n ≤ 100000000000000) (b : Nat) (hb : b = fx n 0) (w : World) :
    Calls Tryz.prog 14 #[(Atom.num b).val] w fun e w' => e = .returned (.tuple #[.int .i64 n, .bool true]) ∧ Below w.heap.size w w' := by
  have ci : ∀ w', (convert 34 3 (.float .f64 b)).run Tryz.prog w' = .ok (.int .i64 n) w' := fun w' => by rw [hb]; exact run_convert_float_int w' 34 3 .f64 .i64 (fx n 0) n (by rw [Tryz.underlying34]; rfl) Tryz.underlying3 (toIntVal_fx (by omega))
  have cv : ∀ w', (convert 3 34 (.int .i64 n)).run Tryz.prog w' = .ok (.float .f64 b) w' := fun w' => by rw [hb]; exact conv_int n w'
  have o1 : FloatKind.f64.format.order b 14054727237768577024 = some .gt := (by rw [hb, order_lo (by omega) (by omega), Int.compare_eq_gt.2 (by omega)])
  have o2 : FloatKind.f64.format.order b 4831355200913801216 = some .lt := (by rw [hb, order_hi (by omega) (by omega), Int.compare_eq_lt.2 (by omega)])
  have o3 : FloatKind.f64.format.order b b = some .eq := (by rw [hb]; exact order_self (by omega) (by omega) (by omega))
  have hv : (Atom.num b).val = .agg #[.int .i64 1, .float .f64 b, .string ⟨#[]⟩, .slice none 0 0] := rfl
  rw [hv]
  clear hv hb
  go_enter Tryz.func14, Tryz.ntmps14
  go_wp2_with fail
  go_ret2
  exact ⟨rfl, by go_grown⟩
end Go.Proofs.YtoebgbojpkflnaaGreatDoor
