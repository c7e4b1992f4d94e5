/- Whole numbers up to 4000 as floats: their difference, their order, their bits. -/
import Derived.Test.YtoebgbojpkflnaaGreatDoorRomTab
import Derived.Test.YtoebgbojpkflnaaGreatDoorTrunc
namespace Go.Proofs.YtoebgbojpkflnaaGreatDoor
open Go Go.RowKit
theorem fx_sub {r v : Nat} (h : v ≤ r) (hr : r ≤ 4000) : floatBits .sub .f64 (fx r 0) (fx v 0) = some (fx ((r - v : Nat) : Int) 0) := by
  rw [Int.natCast_sub h]
  exact sub_reads (reads_fx _ _ (by omega) (by omega) (by omega)) (reads_fx _ _ (by omega) (by omega) (by omega)) (by omega) (.inr (by omega)) (by omega) (by omega)
theorem fx_order {r v : Nat} (hr : r ≤ 4000) (hv : v ≤ 4000) : FloatKind.f64.format.order (fx r 0) (fx v 0) = some (compare (r : Int) v) :=
  order_reads (reads_fx _ _ (by omega) (by omega) (by omega)) (reads_fx _ _ (by omega) (by omega) (by omega))
theorem fx_step : upTo (fun n => decide (fx (n : Int) 0 < fx ((n + 1 : Nat) : Int) 0)) 4000 = true := by decide +kernel
theorem fx_lt {a b : Nat} (h : a < b) (hb : b ≤ 4000) : fx (a : Int) 0 < fx (b : Int) 0 := by
  induction b with
  | zero => omega
  | succ b ih =>
    have hs := of_decide_eq_true (upTo_get fx_step b (by omega))
    by_cases e : a = b
    · subst e; exact hs
    · exact Nat.lt_trans (ih (by omega) (by omega)) hs
end Go.Proofs.YtoebgbojpkflnaaGreatDoor
