/- Proof of FnSquaresJoined, a part: FormatFloat('g', -1, 64) of the whole numbers that the statements meet: each by its own numbers, by the kernel. -/
import Derived.Test.YtoebgbojpkflnaaGreatDoorRows
import Derived.ChangeArms
import Derived.Lib.LaidTab
import Derived.MakeChecks
import Derived.LaidSub
import Derived.Deep.Draws
import Derived.Carry
import Derived.Deep.RegionWith
import Derived.Shelf.Strings.OnBuilder
import Derived.Test.YtoebgbojpkflnaaGreatDoorProg
import Derived.MapKept
import Derived.Outline
import Derived.Shelf.LaysM
import Derived.Shelf.Bytes.String
import Derived.Shelf.Bytes.WriteStringKept
import Derived.Test.YtoebgbojpkflnaaGreatDoorJKit
import Derived.Test.YtoebgbojpkflnaaGreatDoorJFl
import Derived.Test.YtoebgbojpkflnaaGreatDoorJRepl
import Derived.Test.YtoebgbojpkflnaaGreatDoorJTrunc
import Derived.Test.YtoebgbojpkflnaaGreatDoorJFmt
namespace Go.Proofs.YtoebgbojpkflnaaGreatDoor
open Go Go.RowKit
/-- The least t up to n at which p holds, else n. -/
def leastTo (p : Nat → Bool) : Nat → Nat → Nat
  | _, 0 => 0
  | t, n + 1 => if p t then 0 else 1 + leastTo p (t + 1) n
structure Nums where
  neg : Bool
  E : Int
  M : Int
  M' : Nat
  m : Nat
  pow : Bool
  mn : Nat
  mx : Nat
  p : Int
  lp : Int
  i : Nat
  s : Nat
  x : Nat × Nat
  dmn : Int
  dmx : Int
  dn : Nat
  nd : Nat
  k : Nat
  dp : Nat
def ftoaB (b : Nat) (neg : Bool) (E M : Int) (M' m : Nat) : Bool :=
  ((b : Int) / 9223372036854775808 != 0) == neg && bits .and .i64 (wrap64 ((b : Int) / 4503599627370496)) 2047 == E && bits .and .u64 (b : Int) 4503599627370495 == M && bits .or .u64 M 4503599627370496 == (M' : Int)
    && decide (1 ≤ E) && decide (E ≤ 1075) && decide (0 < M') && decide (M' < 18446744073709551616) && Lib.bitLen M' == 53 && IntKind.u64.wrap ((M' : Int) * 2048) == (m : Int)
theorem ftoaB_ok {b : Nat} {neg : Bool} {E M : Int} {M' m : Nat} (h : ftoaB b neg E M M' m = true) : FtoaOk b neg E M M' m := by
  simp only [ftoaB, Bool.and_eq_true, beq_iff_eq, decide_eq_true_eq] at h
  obtain ⟨⟨⟨⟨⟨⟨⟨⟨⟨h1, h2⟩, h3⟩, h4⟩, h5⟩, h6⟩, h7⟩, h8⟩, h9⟩, h10⟩ := h
  exact ⟨h1, h2, h3, h4, ⟨h5, h6⟩, ⟨h7, h8⟩, h9, h10⟩
def shortB (pow : Bool) (m : Nat) (e : Int) (mn mx : Nat) (p lp : Int) (i s : Nat) (x : Nat × Nat) (dmn dmx d : Int) : Bool :=
  ((((m : Int) == 9223372036854775808) == pow) && decide (-1000 ≤ e ∧ e ≤ 0) && decide (-(if pow then ((e + 11) * 631305 - 261663) / 2097152 else (e + 11) * 78913 / 262144) = p) && decide (p * 108853 / 32768 = lp) && decide (p = (i : Int) - 348 ∧ i < 696 ∧ -1000 ≤ p ∧ p ≤ 300))
  && (decide (Go.Pinned.pow10Rows[i]? = some x) && decide (x.1 < 18446744073709551616 ∧ x.2 < 18446744073709551616) && decide (-(e + lp + 3) = (s : Int) ∧ s ≤ 63) && decide (IntKind.u64.wrap ((m : Int) - (if pow then 512 else 1024)) = (mn : Int) ∧ mn < 18446744073709551616) && decide (IntKind.u64.wrap ((m : Int) + 1024) = (mx : Int) ∧ mx < 18446744073709551616))
  && (decide (bits .and .i64 (wrap64 ((m : Int) / 2048)) 1 = 0) && decide (IntKind.u64.wrap (IntKind.u64.wrap (uscaleV mn x.1 x.2 s + 0) + 3) / 4 = dmn) && decide (IntKind.u64.wrap (IntKind.u64.wrap (uscaleV mx x.1 x.2 s + 0) + 0) / 4 = dmx) && decide (dmx / 10 = d ∧ 0 ≤ dmx ∧ dmx < 18446744073709551616) && decide (dmn ≤ d * 10))
theorem shortB_ok {pow : Bool} {m : Nat} {e : Int} {mn mx : Nat} {p lp : Int} {i s : Nat} {x : Nat × Nat} {dmn dmx d : Int} (h : shortB pow m e mn mx p lp i s x dmn dmx d = true) : ShortOk pow m e mn mx p lp i s x dmn dmx d := by
  simp only [shortB, Bool.and_eq_true, decide_eq_true_eq, beq_iff_eq] at h
  obtain ⟨⟨⟨⟨⟨⟨h1, h2⟩, h3⟩, h4⟩, h5⟩, ⟨⟨⟨h6, h7⟩, h8⟩, h9⟩, h10⟩, ⟨⟨⟨h11, h12⟩, h13⟩, h14⟩, h15⟩ := h
  exact ⟨h1, h2, h3, h4, h5, h6, h7, h8, h9, h10, h11, h12, h13, h14, h15⟩
def digB (neg : Bool) (p : Int) (dn nd k dp : Nat) (R : List UInt8) : Bool :=
  (decide (1 ≤ nd ∧ 10 ^ (nd - 1) ≤ dn ∧ dn < 10 ^ nd) && decide (1 ≤ dn ∧ dn < 18446744073709551616) && decide (1 ≤ k ∧ k ≤ nd ∧ nd ≤ 20 ∧ k ≤ dp ∧ dp ≤ 6) && decide ((nd : Int) + -(p - 1) = dp))
  && (List.range nd).all (fun t => decide (t < k) || decide (Lib.dg dn (nd - 1 - t) = 48)) && decide (Lib.dg dn (nd - k) ≠ 48)
  && decide ((if neg then [45] else []) ++ (List.range k).map (fun t => Lib.dg dn (nd - 1 - t)) ++ List.replicate (dp - k) 48 = R)
def numsOf (b : Nat) : Nums :=
  let neg := (b : Int) / 9223372036854775808 != 0
  let E := bits .and .i64 (wrap64 ((b : Int) / 4503599627370496)) 2047
  let M := bits .and .u64 (b : Int) 4503599627370495
  let M' := (bits .or .u64 M 4503599627370496).toNat
  let m := (IntKind.u64.wrap ((M' : Int) * 2048)).toNat
  let e := E + -1023 - 11 - 52
  let pow := (m : Int) == 9223372036854775808
  let p := -(if pow then ((e + 11) * 631305 - 261663) / 2097152 else (e + 11) * 78913 / 262144)
  let lp := p * 108853 / 32768
  let i := (p + 348).toNat
  let x := (Go.Pinned.pow10Rows[i]?).getD (0, 0)
  let s := (-(e + lp + 3)).toNat
  let mn := (IntKind.u64.wrap ((m : Int) - (if pow then 512 else 1024))).toNat
  let mx := (IntKind.u64.wrap ((m : Int) + 1024)).toNat
  let dmn := IntKind.u64.wrap (IntKind.u64.wrap (uscaleV mn x.1 x.2 s + 0) + 3) / 4
  let dmx := IntKind.u64.wrap (IntKind.u64.wrap (uscaleV mx x.1 x.2 s + 0) + 0) / 4
  let dn := (dmx / 10).toNat
  let nd := leastTo (fun t => decide (dn < 10 ^ t)) 0 21
  let k := 1 + leastTo (fun t => (List.range nd).all (fun u => decide (u < t) || decide (Lib.dg dn (nd - 1 - u) = 48))) 1 21
  let dp := ((nd : Int) + -(p - 1)).toNat
  ⟨neg, E, M, M', m, pow, mn, mx, p, lp, i, s, x, dmn, dmx, dn, nd, k, dp⟩
def fmtB' (b : Nat) (R : List UInt8) (c : Nums) : Bool :=
  ftoaB b c.neg c.E c.M c.M' c.m && shortB c.pow c.m (c.E + -1023 - 11 - 52) c.mn c.mx c.p c.lp c.i c.s c.x c.dmn c.dmx (c.dn : Int) && digB c.neg c.p c.dn c.nd c.k c.dp R && !R.isEmpty
def fmtB (b : Nat) (R : List UInt8) : Bool := fmtB' b R (numsOf b)
theorem fmtB_ok {b : Nat} {R : List UInt8} (h : fmtB b R = true) : FmtOk b R := by
  have key : ∀ c, fmtB' b R c = true → FmtOk b R := by
    intro c h
    simp only [fmtB', Bool.and_eq_true] at h
    obtain ⟨⟨⟨h1, h2⟩, h3⟩, h4⟩ := h
    simp only [digB, Bool.and_eq_true, decide_eq_true_eq] at h3
    obtain ⟨⟨⟨⟨⟨⟨d1, d2⟩, d3⟩, d4⟩, d5⟩, d6⟩, d7⟩ := h3
    refine ⟨⟨c.neg, c.E, c.M, c.M', c.m, c.pow, c.mn, c.mx, c.p, c.lp, c.i, c.s, c.x, c.dmn, c.dmx, c.dn, c.nd, c.k, c.dp, ftoaB_ok h1, shortB_ok h2, ?_, ⟨d2.1, d2.2, d1.2.2⟩, d3, d4, ?_, d6, d7⟩, ?_⟩
    · have := Lib.nDigits_unique (c.nd - 1) c.dn d1.2.1 (by rw [show c.nd - 1 + 1 = c.nd by omega]; exact d1.2.2)
      omega
    · intro t ht1 ht2
      rw [List.all_eq_true] at d5
      have := d5 t (List.mem_range.2 ht2)
      simp only [Bool.or_eq_true, decide_eq_true_eq] at this
      rcases this with h | h
      · omega
      · exact h
    · intro e; rw [e] at h4; simp at h4
  exact key _ h
end Go.Proofs.YtoebgbojpkflnaaGreatDoor
namespace Go.Proofs.YtoebgbojpkflnaaGreatDoor
open Go Go.RowKit
/-- The decimal digits of a number below 10 ^ 20. -/
def decOf (n : Nat) : List UInt8 := let k := 1 + leastTo (fun t => decide (n < 10 ^ t)) 1 20; (List.range k).map fun t => Lib.dg n (k - 1 - t)
end Go.Proofs.YtoebgbojpkflnaaGreatDoor
