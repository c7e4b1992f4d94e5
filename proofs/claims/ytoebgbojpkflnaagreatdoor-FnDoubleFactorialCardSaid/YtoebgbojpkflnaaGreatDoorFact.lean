/- FACT and FACTDOUBLE of the whole numbers up to 14. Condition for FACTDOUBLE: FormatFloat's tables as the row lists them. -/
import Derived.Test.YtoebgbojpkflnaaGreatDoorFmtAll
import Derived.Test.YtoebgbojpkflnaaGreatDoorArabDoor
namespace Go.Proofs.YtoebgbojpkflnaaGreatDoor
open Go Go.RowKit
def dbl : Nat → Nat
  | 0 => 1
  | 1 => 1
  | n + 2 => (n + 2) * dbl n
/-- The decimal digits of a number below 10 ^ 20. -/
def decOf (n : Nat) : List UInt8 := let k := 1 + leastTo (fun t => decide (n < 10 ^ t)) 1 20; (List.range k).map fun t => Lib.dg n (k - 1 - t)
theorem dbl_fmt : upTo (fun n => fmtB (fx (dbl n : Int) 0) (decOf (dbl n))) 15 = true := by decide +kernel
theorem dbl_ok {n : Nat} (h : n ≤ 14) : FmtOk (fx (dbl n : Int) 0) (decOf (dbl n)) := fmtB_ok (upTo_get dbl_fmt n (by omega))
theorem dbl_le : upTo (fun n => decide (1 ≤ dbl n ∧ dbl n ≤ 645120)) 15 = true := by decide +kernel
theorem dbl_step {j : Nat} (h : 1 < j) : dbl j = j * dbl (j - 2) := by
  match j, h with
  | j + 2, _ => rfl
theorem fx_mul {a b : Nat} (h : a * b < 9007199254740992) (ha : a < 9007199254740992) (hb : b < 9007199254740992) : floatBits .mul .f64 (fx (a : Int) 0) (fx (b : Int) 0) = some (fx ((a * b : Nat) : Int) 0) := by
  rw [Int.natCast_mul]
  have e : ((a : Int) * b).natAbs = a * b := by rw [← Int.natCast_mul]; rfl
  exact mul_reads (p := 0) (q := 0) (reads_fx _ _ (by omega) (by omega) (by omega)) (reads_fx _ _ (by omega) (by omega) (by omega)) (by rw [e]; omega) (.inr ⟨by omega, by omega⟩) (by omega) (by omega)
theorem fx_add1 {a : Nat} (h : a ≤ 4000) : floatBits .add .f64 (fx (a : Int) 0) 4607182418800017408 = some (fx ((a + 1 : Nat) : Int) 0) := by
  have e : (4607182418800017408 : Nat) = fx ((1 : Nat) : Int) 0 := by decide +kernel
  rw [e, Int.natCast_add]
  exact add_reads (p := 0) (reads_fx _ _ (by omega) (by omega) (by omega)) (reads_fx _ _ (by omega) (by omega) (by omega)) (by omega) (by omega) (by omega)
theorem fx_sub2 {a : Nat} (h2 : 2 ≤ a) (h : a ≤ 4000) : floatBits .sub .f64 (fx (a : Int) 0) 4611686018427387904 = some (fx ((a - 2 : Nat) : Int) 0) := by
  have e : (4611686018427387904 : Nat) = fx ((2 : Nat) : Int) 0 := by decide +kernel
  rw [e]
  exact fx_sub h2 h
theorem fx_vs1 {a : Nat} (h : a ≤ 4000) : FloatKind.f64.format.order (fx (a : Int) 0) 4607182418800017408 = some (compare (a : Int) 1) := by
  have e : (4607182418800017408 : Nat) = fx ((1 : Nat) : Int) 0 := by decide +kernel
  rw [e]
  exact fx_order h (by omega)
theorem fx_vs0 {a : Nat} (h : a ≤ 4000) : FloatKind.f64.format.order (fx (a : Int) 0) 0 = some (compare (a : Int) 0) := by
  have e : (0 : Nat) = fx ((0 : Nat) : Int) 0 := by decide +kernel
  have := fx_order h (show 0 ≤ 4000 by omega)
  rw [← e] at this
  exact this
end Go.Proofs.YtoebgbojpkflnaaGreatDoor
