/- Proof of FnSquaresJoined, a part: The quotient of two whole numbers as floats is exact where it is a multiple of a sixteenth. -/
import Derived.Test.YtoebgbojpkflnaaGreatDoorJFl
namespace Go.Proofs.YtoebgbojpkflnaaGreatDoor
open Ieee
theorem div_reads {x y : Nat} {a b c : Int} (hx : Reads x a 0) (hy : Reads y b 0) (hb : 0 < b) (hc : c.natAbs < 2 ^ 53) (h16 : 16 * a = c * b) :
    double.div x y = some (fx c (-4)) := by
  obtain ⟨m, i, hr, hi1, hi2, hm⟩ := hx
  obtain ⟨n, j, hr', hj1, hj2, hn⟩ := hy
  obtain ⟨ki, hki⟩ : ∃ ki : Nat, i = -(ki : Int) := ⟨(-i).toNat, by omega⟩
  obtain ⟨kj, hkj⟩ : ∃ kj : Nat, j = -(kj : Int) := ⟨(-j).toNat, by omega⟩
  subst hki; subst hkj
  rw [show (0 - -(ki : Int)).toNat = ki by omega] at hm
  rw [show (0 - -(kj : Int)).toNat = kj by omega] at hn
  obtain ⟨B, hB⟩ : ∃ B : Nat, b = B := ⟨b.toNat, by omega⟩
  subst hB
  have hBpos : 0 < B := by omega
  rw [show ((B : Int)).natAbs = B by omega] at hn
  have hnpos : 0 < n := by rw [hn]; exact Nat.mul_pos hBpos (Nat.two_pow_pos _)
  have hab : 16 * a.natAbs = c.natAbs * B := by
    have := congrArg Int.natAbs h16
    rw [Int.natAbs_mul, Int.natAbs_mul] at this
    simpa using this
  unfold Format.div
  rw [hr, hr']
  simp only [Datum.quotient, show double.fractionBits = 52 from rfl]
  rw [if_neg (by omega)]
  simp only [Option.map_some, Option.some.injEq, Format.write]
  by_cases h0 : a = 0
  · have hc0 : c = 0 := by
      rw [h0] at h16
      rcases Int.mul_eq_zero.1 (show c * (B : Int) = 0 by omega) with h | h
      · exact h
      · omega
    subst h0; subst hc0
    simp at hm
    subst hm
    simp only [Nat.zero_shiftLeft, Nat.zero_div, Nat.zero_mod]
    rw [fx_zero]
    simp only [show ((0 : Nat) != 0) = false from rfl, Bool.toNat_false, Nat.mul_zero, Nat.add_zero, nearest_zero]
    have : ¬ ((B : Int) < 0) := by omega
    simp [this, Format.word]
  · have hapos : 0 < a.natAbs := by omega
    have hcpos : 0 < c.natAbs := by
      rcases Nat.eq_zero_or_pos c.natAbs with h | h
      · rw [h] at hab; omega
      · exact h
    have hlm : m.log2 = a.natAbs.log2 + ki := by rw [hm, log2_mul_pow _ _ hapos]
    have hln : n.log2 = B.log2 + kj := by rw [hn, log2_mul_pow _ _ hBpos]
    have hlog : a.natAbs.log2 < 50 + B.log2 := by
      rw [Nat.log2_lt (by omega)]
      have h1 : B < 2 ^ (B.log2 + 1) := Nat.lt_log2_self
      have h2 : 16 * a.natAbs < 2 ^ 53 * 2 ^ (B.log2 + 1) := by
        rw [hab]
        exact Nat.mul_lt_mul_of_lt_of_le hc (Nat.le_of_lt h1) (Nat.two_pow_pos _)
      have h3 : 2 ^ 53 * 2 ^ (B.log2 + 1) = 16 * 2 ^ (50 + B.log2) := by
        rw [← Nat.pow_add, show 53 + (B.log2 + 1) = 4 + (50 + B.log2) by omega, Nat.pow_add]
      omega
    obtain ⟨more, hmore⟩ : ∃ more, more = 52 + 2 + n.log2 - m.log2 := ⟨_, rfl⟩
    rw [← hmore]
    rw [hlm, hln] at hmore
    obtain ⟨K, hK⟩ : ∃ K, ki + more = K + 4 + kj := ⟨ki + more - 4 - kj, by omega⟩
    have hdiv : m <<< more = c.natAbs * 2 ^ K * n := by
      rw [Nat.shiftLeft_eq, hm, hn, Nat.mul_assoc, ← Nat.pow_add, hK, Nat.pow_add, Nat.pow_add]
      have : a.natAbs * 16 = c.natAbs * B := by rw [Nat.mul_comm]; exact hab
      calc a.natAbs * (2 ^ K * 2 ^ 4 * 2 ^ kj) = (a.natAbs * 16) * (2 ^ K * 2 ^ kj) := by rw [show (2 : Nat) ^ 4 = 16 from rfl]; ac_rfl
        _ = c.natAbs * 2 ^ K * (B * 2 ^ kj) := by rw [this]; ac_rfl
    have hq : m <<< more / n = c.natAbs * 2 ^ K := by rw [hdiv]; exact Nat.mul_div_cancel _ hnpos
    have hrem : m <<< more % n = 0 := by rw [hdiv]; exact Nat.mul_mod_left _ _
    rw [hq, hrem]
    have hs : (decide (a < 0) ^^ decide ((B : Int) < 0)) = decide (c < 0) := by
      rw [decide_eq_false (show ¬ ((B : Int) < 0) by omega), Bool.xor_false]
      have : (a < 0) ↔ (c < 0) := by
        constructor
        · intro h
          exact Int.lt_of_not_ge fun h' => by have := Int.mul_nonneg h' (Int.le_of_lt hb); omega
        · intro h
          have := Int.mul_neg_of_neg_of_pos h hb
          omega
      simp [this]
    rw [hs]
    have hmag : 2 * (c.natAbs * 2 ^ K) + ((0 : Nat) != 0).toNat = c.natAbs * 2 ^ (K + 1) := by
      rw [Nat.pow_succ]; simp only [show ((0 : Nat) != 0) = false from rfl, Bool.toNat_false, Nat.add_zero]; ac_rfl
    rw [hmag, show -(ki : Int) - -(kj : Int) - (more : Int) - 1 = -4 - ((K + 1 : Nat) : Int) by omega]
    exact nearest_shift c (-4) (K + 1) hc (by omega) (by omega)
theorem div_one {n : Int} (h : n.natAbs < 2 ^ 49) : double.div (fx n 0) (fx 1 0) = some (fx n 0) := by
  rw [div_reads (reads_fx n 0 (by omega) (by omega) (by omega)) (reads_fx 1 0 (by omega) (by omega) (by omega)) (by omega) (show (n * 2 ^ 4).natAbs < 2 ^ 53 by omega) (by omega)]
  rw [← fx_shift n 0 4 (by omega) (by omega) (by omega)]
  rfl
end Go.Proofs.YtoebgbojpkflnaaGreatDoor
