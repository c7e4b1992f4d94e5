/- Proof of FnSquaresJoined, a part: Whole numbers (and n * 2 ^ p) as floats of 64 bits: sums, differences, products, order and the way back are exact while all stays below 2 ^ 53. -/
import Derived.Laws.FloatArith
namespace Go.Proofs.YtoebgbojpkflnaaGreatDoor
open Ieee
theorem cut_zero (neg : Bool) (n : Nat) : Toward.even.cut neg n 0 = n := by
  simp [Toward.cut, Nat.mod_one]
/-- A cut that drops zeros alone. -/
theorem cut_exact (neg : Bool) (m d : Nat) (hm : 0 < m) : Toward.even.cut neg (m * 2 ^ d) d = m := by
  have h1 : d ≤ (m * 2 ^ d).log2 + 2 := by
    have : 2 ^ d ≤ m * 2 ^ d := Nat.le_mul_of_pos_left _ hm
    have h2 : (2 ^ d).log2 ≤ (m * 2 ^ d).log2 := by
      rw [Nat.le_log2 (by have := Nat.two_pow_pos d; omega)]
      rw [Nat.log2_two_pow]; exact this
    rw [Nat.log2_two_pow] at h2; omega
  have hp := Nat.two_pow_pos d
  simp only [Toward.cut, Nat.min_eq_left h1, Nat.one_shiftLeft, Nat.mul_div_cancel _ hp, Nat.mul_mod_left]
  simp
/-- The rung of 'm * 2 ^ p', where it has at most 53 digits. -/
def rung (m : Nat) (p : Int) : Nat := (p + m.log2 - 52 + 1074).toNat * 2 ^ 52 + m * 2 ^ (52 - m.log2)
theorem leastPlace_double : double.leastPlace = -1074 := by decide
theorem binade_double : double.binade = 2 ^ 52 := by decide
theorem infRung_double : double.infRung = 2047 * 2 ^ 52 := by decide
theorem log2_mul_pow (m k : Nat) (hm : 0 < m) : (m * 2 ^ k).log2 = m.log2 + k := by
  have hp := Nat.two_pow_pos k
  have hne : m * 2 ^ k ≠ 0 := by have := Nat.mul_pos hm hp; omega
  have h1 : m.log2 + k ≤ (m * 2 ^ k).log2 := by
    rw [Nat.le_log2 hne, Nat.pow_add]
    exact Nat.mul_le_mul_right _ (Nat.log2_self_le (by omega))
  have h2 : (m * 2 ^ k).log2 < m.log2 + k + 1 := by
    rw [Nat.log2_lt hne, show m.log2 + k + 1 = (m.log2 + 1) + k by omega, Nat.pow_add]
    exact Nat.mul_lt_mul_of_pos_right Nat.lt_log2_self hp
  omega
theorem mul_pow_lt {m : Nat} (hl : m.log2 ≤ 52) : m * 2 ^ (52 - m.log2) < 2 * 2 ^ 52 := by
  have : m < 2 ^ (m.log2 + 1) := Nat.lt_log2_self
  calc m * 2 ^ (52 - m.log2) < 2 ^ (m.log2 + 1) * 2 ^ (52 - m.log2) := Nat.mul_lt_mul_of_pos_right this (Nat.two_pow_pos _)
    _ = 2 * 2 ^ 52 := by rw [← Nat.pow_add, show m.log2 + 1 + (52 - m.log2) = 53 by omega]
theorem le_mul_pow {m : Nat} (hm : 0 < m) (hl : m.log2 ≤ 52) : 2 ^ 52 ≤ m * 2 ^ (52 - m.log2) := by
  have : 2 ^ m.log2 ≤ m := Nat.log2_self_le (by omega)
  calc 2 ^ 52 = 2 ^ m.log2 * 2 ^ (52 - m.log2) := by rw [← Nat.pow_add, show m.log2 + (52 - m.log2) = 52 by omega]
    _ ≤ _ := Nat.mul_le_mul_right _ this
/-- A number of at most 53 digits is written exactly, however many zeros stand behind it. -/
theorem nearest_exact (neg : Bool) (m k : Nat) (p : Int) (hm : 0 < m) (hl : m.log2 ≤ 52) (hp : -1000 ≤ p) (hq : p ≤ 900) :
    double.nearest neg (m * 2 ^ k) (p - k) = double.word neg (rung m p) := by
  have hpos : 0 < m * 2 ^ k := Nat.mul_pos hm (Nat.two_pow_pos _)
  unfold Format.nearest
  rw [if_neg (by omega)]
  simp only [log2_mul_pow m k hm, leastPlace_double, binade_double, infRung_double, show double.fractionBits = 52 from rfl]
  have hlast : max (p - (k : Int) + ((m.log2 + k : Nat) : Int) - ((52 : Nat) : Int)) (-1074) = p + m.log2 - 52 := by omega
  rw [hlast]
  have hkept : Toward.even.cut neg ((m * 2 ^ k) <<< (p - (k : Int) - (p + m.log2 - 52)).toNat) (p + m.log2 - 52 - (p - (k : Int))).toNat = m * 2 ^ (52 - m.log2) := by
    rw [Nat.shiftLeft_eq]
    by_cases h : k ≤ 52 - m.log2
    · rw [show (p - (k : Int) - (p + m.log2 - 52)).toNat = 52 - m.log2 - k by omega, show (p + (m.log2 : Int) - 52 - (p - (k : Int))).toNat = 0 by omega, cut_zero, Nat.mul_assoc, ← Nat.pow_add]
      congr 2; omega
    · rw [show (p - (k : Int) - (p + m.log2 - 52)).toNat = 0 by omega, show (p + (m.log2 : Int) - 52 - (p - (k : Int))).toNat = k - (52 - m.log2) by omega, Nat.pow_zero, Nat.mul_one]
      have e : m * 2 ^ k = m * 2 ^ (52 - m.log2) * 2 ^ (k - (52 - m.log2)) := by
        rw [Nat.mul_assoc, ← Nat.pow_add]; congr 2; omega
      rw [e, cut_exact _ _ _ (Nat.mul_pos hm (Nat.two_pow_pos _))]
  rw [hkept]
  have hlt := mul_pow_lt hl
  unfold rung
  rw [show (p + (m.log2 : Int) - 52 - -1074) = p + m.log2 - 52 + 1074 by omega]
  congr 1
  have : (p + (m.log2 : Int) - 52 + 1074).toNat ≤ 2000 := by omega
  exact Nat.min_eq_left (by omega)
theorem signWeight_double : double.signWeight = 2 ^ 63 := by decide
theorem read_word (neg : Bool) (m : Nat) (p : Int) (hm : 0 < m) (hl : m.log2 ≤ 52) (hp : -1000 ≤ p) (hq : p ≤ 900) :
    double.read (double.word neg (rung m p)) = .number neg (m * 2 ^ (52 - m.log2)) (p + m.log2 - 52) := by
  have hlt := mul_pow_lt hl
  have hge := le_mul_pow hm hl
  obtain ⟨q, hq'⟩ : ∃ q : Nat, (p + (m.log2 : Int) - 52 + 1074) = q := ⟨_, (Int.toNat_of_nonneg (by omega)).symm⟩
  have hr : rung m p = q * 2 ^ 52 + m * 2 ^ (52 - m.log2) := by unfold rung; rw [hq', Int.toNat_natCast]
  have hq2 : q ≤ 1990 := by omega
  rw [hr]
  generalize m * 2 ^ (52 - m.log2) = c at *
  unfold Format.read
  have hneg : (double.word neg (q * 2 ^ 52 + c) / double.signWeight % 2 == 1) = neg := by
    unfold Format.word; rw [signWeight_double]; cases neg
    · simp only [Bool.false_eq_true, if_false]; rw [Nat.div_eq_of_lt (by omega)]; rfl
    · simp only [if_true]; rw [show (2 ^ 63 + (q * 2 ^ 52 + c)) / 2 ^ 63 = 1 by omega]; rfl
  have hmod : double.word neg (q * 2 ^ 52 + c) % double.signWeight = q * 2 ^ 52 + c := by
    unfold Format.word; rw [signWeight_double]; cases neg
    · simp only [Bool.false_eq_true, if_false]; omega
    · simp only [if_true]; omega
  simp only [hneg, hmod, binade_double, infRung_double, leastPlace_double]
  rw [if_neg (by omega), if_pos (by omega)]
  have e1 : (q * 2 ^ 52 + c) % 2 ^ 52 = c - 2 ^ 52 := by omega
  have e2 : (q * 2 ^ 52 + c) / 2 ^ 52 - 1 = q := by omega
  rw [e1, e2, show 2 ^ 52 + (c - 2 ^ 52) = c by omega, show (-1074 : Int) + (q : Nat) = p + m.log2 - 52 by omega]
/-- The float of 'n * 2 ^ p'. -/
def fx (n p : Int) : Nat := double.nearest (n < 0) n.natAbs p
theorem nearest_zero (neg : Bool) (p : Int) : double.nearest neg 0 p = double.word neg 0 := by simp [Format.nearest]
/-- What a word stands for: 'n * 2 ^ p'; zero is the positive one. -/
def Reads (b : Nat) (n p : Int) : Prop :=
  ∃ (m : Nat) (i : Int), double.read b = .number (n < 0) m i ∧ -1074 ≤ i ∧ i ≤ p ∧ m = n.natAbs * 2 ^ (p - i).toNat
theorem reads_fx (n p : Int) (h : n.natAbs < 2 ^ 53) (hp : -1000 ≤ p) (hq : p ≤ 900) : Reads (fx n p) n p := by
  unfold fx
  by_cases h0 : n = 0
  · subst h0
    refine ⟨0, -1074, ?_, by omega, by omega, by simp⟩
    simp only [Int.natAbs_zero, nearest_zero]
    decide
  · have hl : n.natAbs.log2 ≤ 52 := by
      have : n.natAbs.log2 < 53 := (Nat.log2_lt (by omega)).2 h
      omega
    have e := nearest_exact (n < 0) n.natAbs 0 p (by omega) hl hp hq
    rw [Nat.pow_zero, Nat.mul_one, show p - ((0 : Nat) : Int) = p by omega] at e
    rw [e]
    refine ⟨_, _, read_word _ _ _ (by omega) hl hp hq, by omega, by omega, ?_⟩
    congr 2; omega
/-- A number written with zeros behind it. -/
theorem nearest_shift (n p : Int) (k : Nat) (h : n.natAbs < 2 ^ 53) (hp : -1000 ≤ p) (hq : p ≤ 900) : double.nearest (n < 0) (n.natAbs * 2 ^ k) (p - k) = fx n p := by
  unfold fx
  by_cases h0 : n = 0
  · subst h0; simp only [Int.natAbs_zero, Nat.zero_mul, nearest_zero]
  · have hl : n.natAbs.log2 ≤ 52 := by
      have : n.natAbs.log2 < 53 := (Nat.log2_lt (by omega)).2 h
      omega
    rw [nearest_exact _ _ k p (by omega) hl hp hq]
    have e := nearest_exact (n < 0) n.natAbs 0 p (by omega) hl hp hq
    rw [Nat.pow_zero, Nat.mul_one, show p - ((0 : Nat) : Int) = p by omega] at e
    rw [e]
theorem fx_shift (n p : Int) (k : Nat) (h : n.natAbs < 2 ^ 53) (hp : -1000 ≤ p) (hq : p ≤ 900) : fx (n * 2 ^ k) (p - k) = fx n p := by
  rw [← nearest_shift n p k h hp hq]
  unfold fx
  have e1 : (n * 2 ^ k).natAbs = n.natAbs * 2 ^ k := by rw [Int.natAbs_mul, Int.natAbs_pow]; rfl
  have e2 : (n * 2 ^ k < 0) = (n < 0) := by
    have hp : (0 : Int) < 2 ^ k := Int.pow_pos (by omega)
    apply propext; constructor
    · intro h; exact Int.lt_of_not_ge fun h' => by have := Int.mul_nonneg h' (Int.le_of_lt hp); omega
    · intro h; exact Int.mul_neg_of_neg_of_pos h hp
  simp only [e1, e2]
theorem signed_eq (n : Int) (k : Nat) (d : Nat) : signed (decide (n < 0)) (n.natAbs * 2 ^ k) d = n * 2 ^ (k + d) := by
  unfold signed
  rw [Nat.shiftLeft_eq, Nat.mul_assoc, ← Nat.pow_add]
  have e : ((2 ^ (k + d) : Nat) : Int) = 2 ^ (k + d) := by simp
  by_cases h : n < 0
  · simp only [h, decide_true, if_true, Int.natCast_mul, e]
    rw [← Int.neg_mul, show -(n.natAbs : Int) = n by omega]
  · simp only [h, decide_false, Bool.false_eq_true, if_false, Int.natCast_mul, e]
    rw [show (n.natAbs : Int) = n by omega]
theorem add_reads {x y : Nat} {a b p : Int} (hx : Reads x a p) (hy : Reads y b p) (h : (a + b).natAbs < 2 ^ 53) (hp : -1000 ≤ p) (hq : p ≤ 900) :
    double.add x y = some (fx (a + b) p) := by
  obtain ⟨m, i, hr, hi1, hi2, hm⟩ := hx
  obtain ⟨n, j, hr', hj1, hj2, hn⟩ := hy
  unfold Format.add
  rw [hr, hr']
  simp only [Datum.sum, Option.map_some, Option.some.injEq, Format.write]
  rw [hm, hn, signed_eq, signed_eq]
  have e1 : (p - i).toNat + (i - min i j).toNat = (p - min i j).toNat := by omega
  have e2 : (p - j).toNat + (j - min i j).toNat = (p - min i j).toNat := by omega
  rw [e1, e2, ← Int.add_mul]
  have hk : p - min i j = ((p - min i j).toNat : Int) := by omega
  generalize (p - min i j).toNat = k at *
  rw [show min i j = p - k by omega]
  have hpow : (0 : Int) < 2 ^ k := Int.pow_pos (by omega)
  by_cases h0 : a + b = 0
  · rw [h0, Int.zero_mul]
    simp only [if_true, Int.natAbs_zero, nearest_zero, fx]
    by_cases ha : a < 0
    · have : ¬ b < 0 := by omega
      simp [ha, this]
    · simp [ha]
  · have hz : (a + b) * 2 ^ k ≠ 0 := Int.mul_ne_zero h0 (by omega)
    rw [if_neg hz]
    have e3 : ((a + b) * 2 ^ k).natAbs = (a + b).natAbs * 2 ^ k := by rw [Int.natAbs_mul, Int.natAbs_pow]; rfl
    have e4 : ((a + b) * 2 ^ k < 0) = (a + b < 0) := by
      apply propext; constructor
      · intro h; exact Int.lt_of_not_ge fun h' => by have := Int.mul_nonneg h' (Int.le_of_lt hpow); omega
      · intro h; exact Int.mul_neg_of_neg_of_pos h hpow
    rw [e3]; simp only [e4]
    exact nearest_shift (a + b) p k h hp hq
theorem sub_reads {x y : Nat} {a b p : Int} (hx : Reads x a p) (hy : Reads y b p) (h : (a - b).natAbs < 2 ^ 53) (hz : b ≠ 0 ∨ 0 ≤ a) (hp : -1000 ≤ p) (hq : p ≤ 900) :
    double.sub x y = some (fx (a - b) p) := by
  obtain ⟨m, i, hr, hi1, hi2, hm⟩ := hx
  obtain ⟨n, j, hr', hj1, hj2, hn⟩ := hy
  unfold Format.sub
  rw [hr, hr']
  simp only [Datum.sum, Datum.opposite, Option.map_some, Option.some.injEq, Format.write]
  have hs : signed (!decide (b < 0)) n (j - min i j).toNat = (-b) * 2 ^ ((p - j).toNat + (j - min i j).toNat) := by
    rw [hn]
    by_cases hb : b = 0
    · subst hb; simp [signed]
    · have := signed_eq (-b) (p - j).toNat (j - min i j).toNat
      rw [Int.natAbs_neg] at this
      rw [← this]; congr 1
      by_cases hb' : b < 0
      · rw [decide_eq_true hb', decide_eq_false (show ¬ -b < 0 by omega)]; rfl
      · rw [decide_eq_false hb', decide_eq_true (show -b < 0 by omega)]; rfl
  rw [hs, hm, signed_eq]
  have e1 : (p - i).toNat + (i - min i j).toNat = (p - min i j).toNat := by omega
  have e2 : (p - j).toNat + (j - min i j).toNat = (p - min i j).toNat := by omega
  rw [e1, e2, ← Int.add_mul, ← Int.sub_eq_add_neg]
  have hk : p - min i j = ((p - min i j).toNat : Int) := by omega
  generalize (p - min i j).toNat = k at *
  rw [show min i j = p - k by omega]
  have hpow : (0 : Int) < 2 ^ k := Int.pow_pos (by omega)
  by_cases h0 : a - b = 0
  · rw [h0, Int.zero_mul]
    simp only [if_true, Int.natAbs_zero, nearest_zero, fx]
    by_cases ha : a < 0
    · have : b < 0 := by omega
      simp [ha, this]
    · simp [ha]
  · have hz : (a - b) * 2 ^ k ≠ 0 := Int.mul_ne_zero h0 (by omega)
    rw [if_neg hz]
    have e3 : ((a - b) * 2 ^ k).natAbs = (a - b).natAbs * 2 ^ k := by rw [Int.natAbs_mul, Int.natAbs_pow]; rfl
    have e4 : ((a - b) * 2 ^ k < 0) = (a - b < 0) := by
      apply propext; constructor
      · intro h; exact Int.lt_of_not_ge fun h' => by have := Int.mul_nonneg h' (Int.le_of_lt hpow); omega
      · intro h; exact Int.mul_neg_of_neg_of_pos h hpow
    rw [e3]; simp only [e4]
    exact nearest_shift (a - b) p k h hp hq
theorem mul_reads {x y : Nat} {a b p q : Int} (hx : Reads x a p) (hy : Reads y b q) (h : (a * b).natAbs < 2 ^ 53) (hz : (a ≠ 0 ∧ b ≠ 0) ∨ (0 ≤ a ∧ 0 ≤ b)) (hp : -1000 ≤ p + q) (hq : p + q ≤ 900) :
    double.mul x y = some (fx (a * b) (p + q)) := by
  obtain ⟨m, i, hr, hi1, hi2, hm⟩ := hx
  obtain ⟨n, j, hr', hj1, hj2, hn⟩ := hy
  unfold Format.mul
  rw [hr, hr']
  simp only [Datum.product, Option.map_some, Option.some.injEq, Format.write]
  have hs : (decide (a < 0) ^^ decide (b < 0)) = decide (a * b < 0) := by
    rcases hz with ⟨ha, hb⟩ | ⟨ha, hb⟩
    · by_cases h1 : a < 0 <;> by_cases h2 : b < 0
      · have := Int.mul_pos_of_neg_of_neg h1 h2
        simp [h1, h2]; omega
      · have := Int.mul_neg_of_neg_of_pos h1 (show 0 < b by omega)
        simp [h1, h2]; omega
      · have := Int.mul_neg_of_pos_of_neg (show 0 < a by omega) h2
        simp [h1, h2]; omega
      · have := Int.mul_pos (show 0 < a by omega) (show 0 < b by omega)
        simp [h1, h2]; omega
    · have := Int.mul_nonneg ha hb
      simp [show ¬ a < 0 by omega, show ¬ b < 0 by omega]; omega
  have hmn : m * n = (a * b).natAbs * 2 ^ ((p - i).toNat + (q - j).toNat) := by
    rw [hm, hn, Int.natAbs_mul, Nat.pow_add]; ac_rfl
  rw [hs, hmn, show i + j = (p + q) - ((p - i).toNat + (q - j).toNat : Nat) by omega]
  exact nearest_shift (a * b) (p + q) _ h hp hq
theorem order_reads {x y : Nat} {a b p : Int} (hx : Reads x a p) (hy : Reads y b p) : double.order x y = some (compare a b) := by
  obtain ⟨m, i, hr, hi1, hi2, hm⟩ := hx
  obtain ⟨n, j, hr', hj1, hj2, hn⟩ := hy
  unfold Format.order
  rw [hr, hr']
  simp only [Datum.order, Option.some.injEq]
  rw [hm, hn, signed_eq, signed_eq]
  have e1 : (p - i).toNat + (i - min i j).toNat = (p - min i j).toNat := by omega
  have e2 : (p - j).toNat + (j - min i j).toNat = (p - min i j).toNat := by omega
  rw [e1, e2]
  generalize (p - min i j).toNat = k
  have hpow : (0 : Int) < 2 ^ k := Int.pow_pos (by omega)
  simp only [compare, compareOfLessAndEq]
  have h1 : (a * 2 ^ k < b * 2 ^ k) = (a < b) := propext (Int.mul_lt_mul_right hpow)
  have h2 : (a * 2 ^ k = b * 2 ^ k) = (a = b) := propext (Int.mul_eq_mul_right_iff (by omega))
  simp only [h1, h2]
theorem toInt_reads {x : Nat} {a : Int} (hx : Reads x a 0) : (double.read x).toInt .zero = some a := by
  obtain ⟨m, i, hr, hi1, hi2, hm⟩ := hx
  rw [hr]
  simp only [Datum.toInt, Datum.integral, Option.some.injEq]
  have hc : Toward.zero.cut (decide (a < 0)) (m <<< i.toNat) (-i).toNat = a.natAbs := by
    rw [show i.toNat = 0 by omega, Nat.shiftLeft_zero, hm, show (0 - i).toNat = (-i).toNat by omega]
    generalize (-i).toNat = d
    by_cases h0 : a = 0
    · subst h0; simp [Toward.cut]
    · have hpos : 0 < a.natAbs := by omega
      have h1 : d ≤ (a.natAbs * 2 ^ d).log2 + 2 := by rw [log2_mul_pow _ _ hpos]; omega
      simp only [Toward.cut, Nat.min_eq_left h1, Nat.one_shiftLeft, Nat.mul_div_cancel _ (Nat.two_pow_pos d)]
      simp
  rw [hc]
  have := signed_eq a 0 0
  simpa using this
theorem floatOfInt_fx (n : Int) : floatOfInt .f64 n = fx n 0 := rfl
theorem reads_zero (p : Int) (hp : -1074 ≤ p) : Reads 0 0 p := ⟨0, -1074, by decide, by omega, hp, by simp⟩
theorem fx_zero (p : Int) : fx 0 p = 0 := by unfold fx; rw [Int.natAbs_zero, nearest_zero]; rfl
theorem order_self {n p : Int} (h : n.natAbs < 2 ^ 53) (hp : -1000 ≤ p) (hq : p ≤ 900) : double.order (fx n p) (fx n p) = some .eq := by
  rw [order_reads (reads_fx n p h hp hq) (reads_fx n p h hp hq)]; simp [compare, compareOfLessAndEq]
theorem order_zero {n p : Int} (h : n.natAbs < 2 ^ 53) (hp : -1000 ≤ p) (hq : p ≤ 900) : double.order (fx n p) 0 = some (compare n 0) :=
  order_reads (reads_fx n p h hp hq) (reads_zero p (by omega))
theorem toIntVal_fx {n : Int} (h : n.natAbs < 2 ^ 53) : floatToIntVal .f64 (fx n 0) .i64 = some n := by
  unfold floatToIntVal
  rw [show (FloatKind.f64.decode (fx n 0)).toInt .zero = some n from toInt_reads (reads_fx n 0 h (by omega) (by omega))]
  simp only [IntKind.min, IntKind.max, IntKind.signed, IntKind.bits]
  rw [if_pos]
  constructor
  · show -(2 : Int) ^ 63 ≤ n; omega
  · show n ≤ (2 : Int) ^ 63 - 1; omega
end Go.Proofs.YtoebgbojpkflnaaGreatDoor
